import JvmDerived
import JvmDerived.Pilot.@@N@@Statement
import JvmDerived.Pilot.@@N@@Code
set_option linter.unusedVariables false
set_option linter.unusedSimpArgs false
namespace Jvm.WK
open Jvm Sem ClassFile Op Lib Jvm.Free Jvm.Stand Jvm.LawKit Jvm.RoadKit
/-- the fixed surroundings of a walk: program, launch, environment, first state, method, arguments, frames below, method record, code record -/
abbrev Cx := Program × Launch × Env × State × MethodId × Array Value × List Frame × Method × Code
/-- FROM HERE THE BODY RUNS TO ITS RETURN, AND WHAT IT LEAVES MEETS Q: h the heap here, pc, Ls, st the top frame; cl, sl: what was made so far; only cells from n0 on are written. -/
def WP (C : Cx) (Z : State) (code : ByteArray) (ml : Nat) (own : String) (rt : Option FieldType) (nm : String) (R : Room) (n0 : Nat) (Q : Option Value → Heap → Prop) (cl sl : Nat) (h : Heap) (pc : Nat) (Ls : Array Slot) (st : List Value) : Prop :=
  C.1.tables.exec = Jvm.exec → C.2.2.2.2.2.2.2.2.code = code → C.2.2.2.2.2.2.2.2.maxLocals = ml → C.2.2.2.1.vm.findClass own = some C.2.2.2.2.1.cls → Z.Warmed39 C.2.2.2.1.vm → C.2.2.2.2.2.2.2.1.sig.returnType = rt → C.2.2.2.2.2.2.2.1.locks = false → C.2.2.2.2.2.2.2.1.name = nm →
  ∀ (T : State) (locs : List Loc), Stand C.1 C.2.1 C.2.2.1 R C.2.2.2.1 C.2.2.2.2.1 C.2.2.2.2.2.1 C.2.2.2.2.2.2.1 C.2.2.2.2.2.2.2.1 C.2.2.2.2.2.2.2.2 T locs cl sl → T.heap = h → Fr n0 locs →
    ∃ (s₂ : State) (v : Option Value) (L : List Loc), Steps C.1.tables C.2.2.1 C.2.2.2.2.2.2.1 (T.setTop (mkF C.2.2.2.2.1 pc Ls st)) s₂ ∧ s₂.status = .running ∧ Ended s₂ C.2.2.2.2.2.2.1 (.returned v) ∧ Q v s₂.heap ∧ Fr n0 L ∧ FrameEnd C.2.2.2.1 (.returned v) s₂ L R.cells R.slots
/-- WHAT A METHOD DOES FROM THE HEAP h0 WITH THE ARGUMENTS a -/
def Does (l : Launch) (Z : State) (y : MethodName) (code : ByteArray) (ml : Nat) (rt : Option FieldType) (R : Room) (n0 : Nat) (as' : Array Value) (h0 : Heap) (Q : Option Value → Heap → Prop) : Prop :=
  ∀ ws : List Jvm.Cond, MetFree l y (head1 (Jvm.Cond.code y code ml rt :: ws) R) (fun a U => a = as' ∧ Z.Warmed39 U.vm ∧ U.heap = h0) (fun _ _ _ _ _ => True)
    (fun _ U o U' => ∃ v L, o = .returned v ∧ (Q v U'.heap ∧ Fr n0 L) ∧ FrameEnd U o U' L R.cells R.slots)
theorem Does.of_wp {l : Launch} {Z : State} {y : MethodName} {code : ByteArray} {ml : Nat} {rt : Option FieldType} {R : Room} {n0 : Nat} {as' : Array Value} {h0 : Heap} {Q : Option Value → Heap → Prop} (hpl : plainFor y = true) {Ls : Array Slot} (hef : ∀ m, entryFrame m as' ml = mkF m 0 Ls [])
    (hW : ∀ C : Cx, WP C Z code ml y.cls rt y.name R n0 Q 0 0 h0 0 Ls []) : Does l Z y code ml rt R n0 as' h0 Q := by
  intro ws
  refine MetFree.of_bodySF hpl hisR ?_
  intro p e s m args below meth c s₁ Bd hml0 hP hK
  obtain ⟨rfl, hZ, hh⟩ := hP
  have X0 : Stand p l e R s m args below meth c s₁ [] 0 0 := Stand.of_body Bd
  have e0 : s₁.heap = h0 := by rw [← hh, Bd.state]; rfl
  obtain ⟨s₂, v, L, h1, h2, h3, h4, h5, h6⟩ := hW (p, l, e, s, m, args, below, meth, c) Bd.exec Bd.bytes hml0 (findClass_of_methodNamed Bd.named) hZ Bd.returns Bd.notSynchronized (name_of_methodNamed Bd.named Bd.method).1 s₁ [] X0 e0 (Fr.nil n0)
  exact ⟨s₂, _, castTop (hef m) h1, h2, h3, v, L, rfl, ⟨h4, h5⟩, h6⟩
section Rules
variable {C : Cx} {Z : State} {code : ByteArray} {ml : Nat} {own : String} {rt : Option FieldType} {nm : String} {R : Room} {n0 : Nat} {Q : Option Value → Heap → Prop} {cl sl : Nat} {h : Heap} {pc pc' : Nat} {Ls Ls' : Array Slot} {st st' : List Value} {a0 : Array Value}
theorem WP.step {cl' sl' : Nat} {h' : Heap} (f : ∀ {p : Program} {l : Launch} {e : Env} {s : State} {m : MethodId} {args : Array Value} {below : List Frame} {meth : Method} {c : Code} {T : State} {locs : List Loc}, Stand p l e R s m args below meth c T locs cl sl → p.tables.exec = Jvm.exec → c.code = code → c.maxLocals = ml → s.vm.findClass own = some m.cls → Z.Warmed39 s.vm → meth.name = nm → T.heap = h → Fr n0 locs →
      ∃ T' locs', Stand p l e R s m args below meth c T' locs' cl' sl' ∧ T'.heap = h' ∧ Fr n0 locs' ∧ ∀ t, Steps p.tables e below (T'.setTop (mkF m pc' Ls' st')) t → Steps p.tables e below (T.setTop (mkF m pc Ls st)) t)
    (hr : WP C Z code ml own rt nm R n0 Q cl' sl' h' pc' Ls' st') : WP C Z code ml own rt nm R n0 Q cl sl h pc Ls st := by
  intro k1 k2 k3 k4 k5 k6 k7 k8 T locs X e N
  obtain ⟨T', locs', X', e', N', k⟩ := f X k1 k2 k3 k4 k5 k8 e N
  obtain ⟨s₂, v, L, h1, h2⟩ := hr k1 k2 k3 k4 k5 k6 k7 k8 T' locs' X' e' N'
  exact ⟨s₂, v, L, k _ h1, h2⟩
theorem WP.pure (f : ∀ {p : Program} {l : Launch} {e : Env} {s : State} {m : MethodId} {args : Array Value} {below : List Frame} {meth : Method} {c : Code} {T : State} {locs : List Loc}, Stand p l e R s m args below meth c T locs cl sl → p.tables.exec = Jvm.exec → c.code = code → s.vm.findClass own = some m.cls → Z.Warmed39 s.vm → T.heap = h →
      ∀ t, Steps p.tables e below (T.setTop (mkF m pc' Ls' st')) t → Steps p.tables e below (T.setTop (mkF m pc Ls st)) t)
    (hr : WP C Z code ml own rt nm R n0 Q cl sl h pc' Ls' st') : WP C Z code ml own rt nm R n0 Q cl sl h pc Ls st :=
  WP.step (fun X hx hc _ ho hZ _ e N => ⟨_, _, X, e, N, f X hx hc ho hZ e⟩) hr
/-- the heap's name may be turned -/
theorem WP.cast {h' : Heap} (e : h = h') (hr : WP C Z code ml own rt nm R n0 Q cl sl h' pc Ls st) : WP C Z code ml own rt nm R n0 Q cl sl h pc Ls st := e ▸ hr
theorem WP.castS (e : st = st') (hr : WP C Z code ml own rt nm R n0 Q cl sl h pc Ls st') : WP C Z code ml own rt nm R n0 Q cl sl h pc Ls st := e ▸ hr
theorem WP.castL (e : Ls = Ls') (hr : WP C Z code ml own rt nm R n0 Q cl sl h pc Ls' st) : WP C Z code ml own rt nm R n0 Q cl sl h pc Ls st := e ▸ hr
theorem WP.more {cl' sl' : Nat} (h1 : cl ≤ cl') (h2 : sl ≤ sl') (hr : WP C Z code ml own rt nm R n0 Q cl' sl' h pc Ls st) : WP C Z code ml own rt nm R n0 Q cl sl h pc Ls st := by
  intro k1 k2 k3 k4 k5 k6 k7 k8 T locs X e N
  exact hr k1 k2 k3 k4 k5 k6 k7 k8 T locs ⟨X.admits, X.cas, X.clock, X.frames, X.room, X.hears, X.method, X.code, X.here, X.tail, X.warmed, X.limits, X.bytes, X.same.mono h1 h2⟩ e N
theorem WP.iloadN {k : Fin 4} {v : Int32} (hd : decode code pc = .ok (.iload_n k, 1)) (hp : pc + 1 = pc') (hl : Ls[k.val]? = some (.val (.int v))) (hr : WP C Z code ml own rt nm R n0 Q cl sl h pc' Ls (.int v :: st)) : WP C Z code ml own rt nm R n0 Q cl sl h pc Ls st := by
  subst hp
  exact hr.pure fun X hx hby hown hZ eT t q => XS.iloadN X.here hx rfl (hb hby hd) hl q
theorem WP.iload {k : Nat} {v : Int32} (hd : decode code pc = .ok (.iload k, 2)) (hp : pc + 2 = pc') (hl : Ls[k]? = some (.val (.int v))) (hr : WP C Z code ml own rt nm R n0 Q cl sl h pc' Ls (.int v :: st)) : WP C Z code ml own rt nm R n0 Q cl sl h pc Ls st := by
  subst hp
  exact hr.pure fun X hx hby hown hZ eT t q => XS.iload X.here hx rfl (hb hby hd) hl q
theorem WP.lloadN {k : Fin 4} {v : Int64} (hd : decode code pc = .ok (.lload_n k, 1)) (hp : pc + 1 = pc') (hl : Ls[k.val]? = some (.val (.long v))) (hr : WP C Z code ml own rt nm R n0 Q cl sl h pc' Ls (.long v :: st)) : WP C Z code ml own rt nm R n0 Q cl sl h pc Ls st := by
  subst hp
  exact hr.pure fun X hx hby hown hZ eT t q => XS.lloadN X.here hx rfl (hb hby hd) hl q
theorem WP.lload {k : Nat} {v : Int64} (hd : decode code pc = .ok (.lload k, 2)) (hp : pc + 2 = pc') (hl : Ls[k]? = some (.val (.long v))) (hr : WP C Z code ml own rt nm R n0 Q cl sl h pc' Ls (.long v :: st)) : WP C Z code ml own rt nm R n0 Q cl sl h pc Ls st := by
  subst hp
  exact hr.pure fun X hx hby hown hZ eT t q => XS.lload X.here hx rfl (hb hby hd) hl q
theorem WP.dloadN {k : Fin 4} {v : UInt64} (hd : decode code pc = .ok (.dload_n k, 1)) (hp : pc + 1 = pc') (hl : Ls[k.val]? = some (.val (.double v))) (hr : WP C Z code ml own rt nm R n0 Q cl sl h pc' Ls (.double v :: st)) : WP C Z code ml own rt nm R n0 Q cl sl h pc Ls st := by
  subst hp
  exact hr.pure fun X hx hby hown hZ eT t q => XS.dloadN X.here hx rfl (hb hby hd) hl q
theorem WP.dload {k : Nat} {v : UInt64} (hd : decode code pc = .ok (.dload k, 2)) (hp : pc + 2 = pc') (hl : Ls[k]? = some (.val (.double v))) (hr : WP C Z code ml own rt nm R n0 Q cl sl h pc' Ls (.double v :: st)) : WP C Z code ml own rt nm R n0 Q cl sl h pc Ls st := by
  subst hp
  exact hr.pure fun X hx hby hown hZ eT t q => XS.dload X.here hx rfl (hb hby hd) hl q
theorem WP.aloadN {k : Fin 4} {v : Value} (hd : decode code pc = .ok (.aload_n k, 1)) (hp : pc + 1 = pc') (hl : Ls[k.val]? = some (.val v)) (hv : v.isRef = true) (hr : WP C Z code ml own rt nm R n0 Q cl sl h pc' Ls (v :: st)) : WP C Z code ml own rt nm R n0 Q cl sl h pc Ls st := by
  subst hp
  exact hr.pure fun X hx hby hown hZ eT t q => XS.aloadN X.here hx rfl (hb hby hd) hl hv q
theorem WP.aload {k : Nat} {v : Value} (hd : decode code pc = .ok (.aload k, 2)) (hp : pc + 2 = pc') (hl : Ls[k]? = some (.val v)) (hv : v.isRef = true) (hr : WP C Z code ml own rt nm R n0 Q cl sl h pc' Ls (v :: st)) : WP C Z code ml own rt nm R n0 Q cl sl h pc Ls st := by
  subst hp
  exact hr.pure fun X hx hby hown hZ eT t q => XS.aload X.here hx rfl (hb hby hd) hl hv q
theorem WP.istoreN {k : Fin 4} {v : Int32} (hd : decode code pc = .ok (.istore_n k, 1)) (hp : pc + 1 = pc') (hl : storeLocals Ls k.val (.int v) = some Ls') (hr : WP C Z code ml own rt nm R n0 Q cl sl h pc' Ls' st) : WP C Z code ml own rt nm R n0 Q cl sl h pc Ls (.int v :: st) := by
  subst hp
  exact hr.pure fun X hx hby hown hZ eT t q => XS.istoreN X.here hx rfl (hb hby hd) rfl hl q
theorem WP.istore {k : Nat} {v : Int32} (hd : decode code pc = .ok (.istore k, 2)) (hp : pc + 2 = pc') (hl : storeLocals Ls k (.int v) = some Ls') (hr : WP C Z code ml own rt nm R n0 Q cl sl h pc' Ls' st) : WP C Z code ml own rt nm R n0 Q cl sl h pc Ls (.int v :: st) := by
  subst hp
  exact hr.pure fun X hx hby hown hZ eT t q => XS.istore X.here hx rfl (hb hby hd) rfl hl q
theorem WP.lstoreN {k : Fin 4} {v : Int64} (hd : decode code pc = .ok (.lstore_n k, 1)) (hp : pc + 1 = pc') (hl : storeLocals Ls k.val (.long v) = some Ls') (hr : WP C Z code ml own rt nm R n0 Q cl sl h pc' Ls' st) : WP C Z code ml own rt nm R n0 Q cl sl h pc Ls (.long v :: st) := by
  subst hp
  exact hr.pure fun X hx hby hown hZ eT t q => XS.lstoreN X.here hx rfl (hb hby hd) rfl hl q
theorem WP.lstore {k : Nat} {v : Int64} (hd : decode code pc = .ok (.lstore k, 2)) (hp : pc + 2 = pc') (hl : storeLocals Ls k (.long v) = some Ls') (hr : WP C Z code ml own rt nm R n0 Q cl sl h pc' Ls' st) : WP C Z code ml own rt nm R n0 Q cl sl h pc Ls (.long v :: st) := by
  subst hp
  exact hr.pure fun X hx hby hown hZ eT t q => XS.lstore X.here hx rfl (hb hby hd) rfl hl q
theorem WP.dstoreN {k : Fin 4} {v : UInt64} (hd : decode code pc = .ok (.dstore_n k, 1)) (hp : pc + 1 = pc') (hl : storeLocals Ls k.val (.double v) = some Ls') (hr : WP C Z code ml own rt nm R n0 Q cl sl h pc' Ls' st) : WP C Z code ml own rt nm R n0 Q cl sl h pc Ls (.double v :: st) := by
  subst hp
  exact hr.pure fun X hx hby hown hZ eT t q => XS.dstoreN X.here hx rfl (hb hby hd) rfl hl q
theorem WP.dstore {k : Nat} {v : UInt64} (hd : decode code pc = .ok (.dstore k, 2)) (hp : pc + 2 = pc') (hl : storeLocals Ls k (.double v) = some Ls') (hr : WP C Z code ml own rt nm R n0 Q cl sl h pc' Ls' st) : WP C Z code ml own rt nm R n0 Q cl sl h pc Ls (.double v :: st) := by
  subst hp
  exact hr.pure fun X hx hby hown hZ eT t q => XS.dstore X.here hx rfl (hb hby hd) rfl hl q
theorem WP.astoreN {k : Fin 4} {v : Value} (hd : decode code pc = .ok (.astore_n k, 1)) (hp : pc + 1 = pc') (hv : v.isRef = true) (hl : storeLocals Ls k.val v = some Ls') (hr : WP C Z code ml own rt nm R n0 Q cl sl h pc' Ls' st) : WP C Z code ml own rt nm R n0 Q cl sl h pc Ls (v :: st) := by
  subst hp
  exact hr.pure fun X hx hby hown hZ eT t q => XS.astoreN X.here hx rfl (hb hby hd) rfl hv hl q
theorem WP.astore {k : Nat} {v : Value} (hd : decode code pc = .ok (.astore k, 2)) (hp : pc + 2 = pc') (hv : v.isRef = true) (hl : storeLocals Ls k v = some Ls') (hr : WP C Z code ml own rt nm R n0 Q cl sl h pc' Ls' st) : WP C Z code ml own rt nm R n0 Q cl sl h pc Ls (v :: st) := by
  subst hp
  exact hr.pure fun X hx hby hown hZ eT t q => XS.astore X.here hx rfl (hb hby hd) rfl hv hl q
theorem WP.iconst {i : Int} {z : Int32} (hd : decode code pc = .ok (.iconst i, 1)) (hp : pc + 1 = pc') (hz : Int32.ofInt i = z) (hr : WP C Z code ml own rt nm R n0 Q cl sl h pc' Ls (.int z :: st)) : WP C Z code ml own rt nm R n0 Q cl sl h pc Ls st := by
  subst hp
  subst hz
  exact hr.pure fun X hx hby hown hZ eT t q => XS.iconst X.here hx rfl (hb hby hd) q
theorem WP.bipush {i : Int} {z : Int32} (hd : decode code pc = .ok (.bipush i, 2)) (hp : pc + 2 = pc') (hz : (Int8.ofInt i).toInt32 = z) (hr : WP C Z code ml own rt nm R n0 Q cl sl h pc' Ls (.int z :: st)) : WP C Z code ml own rt nm R n0 Q cl sl h pc Ls st := by
  subst hp
  subst hz
  exact hr.pure fun X hx hby hown hZ eT t q => XS.bipush X.here hx rfl (hb hby hd) q
theorem WP.sipush {i : Int} {z : Int32} (hd : decode code pc = .ok (.sipush i, 3)) (hp : pc + 3 = pc') (hz : (Int16.ofInt i).toInt32 = z) (hr : WP C Z code ml own rt nm R n0 Q cl sl h pc' Ls (.int z :: st)) : WP C Z code ml own rt nm R n0 Q cl sl h pc Ls st := by
  subst hp
  subst hz
  exact hr.pure fun X hx hby hown hZ eT t q => XS.sipush X.here hx rfl (hb hby hd) q
theorem WP.lconst {k : Fin 2} {z : Int64} (hd : decode code pc = .ok (.lconst k, 1)) (hp : pc + 1 = pc') (hz : Int64.ofNat k = z) (hr : WP C Z code ml own rt nm R n0 Q cl sl h pc' Ls (.long z :: st)) : WP C Z code ml own rt nm R n0 Q cl sl h pc Ls st := by
  subst hp
  subst hz
  exact hr.pure fun X hx hby hown hZ eT t q => XS.lconst X.here hx rfl (hb hby hd) q
theorem WP.aconstNull  (hd : decode code pc = .ok (.aconst_null, 1)) (hp : pc + 1 = pc') (hr : WP C Z code ml own rt nm R n0 Q cl sl h pc' Ls (.null :: st)) : WP C Z code ml own rt nm R n0 Q cl sl h pc Ls st := by
  subst hp
  exact hr.pure fun X hx hby hown hZ eT t q => XS.aconstNull X.here hx rfl (hb hby hd) q
theorem WP.ldcI {i : Nat} {v : Int32} (hd : decode code pc = .ok (.ldc i, 2)) (hp : pc + 2 = pc') (w : (Jvm.Cond.constant own i v).before a0 Z = true) (hr : WP C Z code ml own rt nm R n0 Q cl sl h pc' Ls (.int v :: st)) : WP C Z code ml own rt nm R n0 Q cl sl h pc Ls st := by
  subst hp
  exact hr.pure fun X hx hby hown hZ eT t q => X.ldcInt hx hown (mvT hZ w) (g := mkF _ pc Ls st) rfl (hb hby hd) t q
theorem WP.ldcWI {i : Nat} {v : Int32} (hd : decode code pc = .ok (.ldc_w i, 3)) (hp : pc + 3 = pc') (w : (Jvm.Cond.constant own i v).before a0 Z = true) (hr : WP C Z code ml own rt nm R n0 Q cl sl h pc' Ls (.int v :: st)) : WP C Z code ml own rt nm R n0 Q cl sl h pc Ls st := by
  subst hp
  exact hr.pure fun X hx hby hown hZ eT t q => X.ldcWInt hx hown (mvT hZ w) (g := mkF _ pc Ls st) rfl (hb hby hd) t q
theorem WP.ldc2J {i : Nat} {v : Int64} (hd : decode code pc = .ok (.ldc2_w i, 3)) (hp : pc + 3 = pc') (w : (Jvm.Cond.constantLong own i v).before a0 Z = true) (hr : WP C Z code ml own rt nm R n0 Q cl sl h pc' Ls (.long v :: st)) : WP C Z code ml own rt nm R n0 Q cl sl h pc Ls st := by
  subst hp
  exact hr.pure fun X hx hby hown hZ eT t q => X.ldc2Long hx hown (mvT hZ w) (g := mkF _ pc Ls st) rfl (hb hby hd) t q
theorem WP.iadd {x y : Int32} (hd : decode code pc = .ok (.iadd, 1)) (hp : pc + 1 = pc') (hr : WP C Z code ml own rt nm R n0 Q cl sl h pc' Ls (.int (x + y) :: st)) : WP C Z code ml own rt nm R n0 Q cl sl h pc Ls (.int y :: .int x :: st) := by
  subst hp
  exact hr.pure fun X hx hby hown hZ eT t q => XS.iadd X.here hx rfl (hb hby hd) rfl q
theorem WP.isub {x y : Int32} (hd : decode code pc = .ok (.isub, 1)) (hp : pc + 1 = pc') (hr : WP C Z code ml own rt nm R n0 Q cl sl h pc' Ls (.int (x - y) :: st)) : WP C Z code ml own rt nm R n0 Q cl sl h pc Ls (.int y :: .int x :: st) := by
  subst hp
  exact hr.pure fun X hx hby hown hZ eT t q => XS.isub X.here hx rfl (hb hby hd) rfl q
theorem WP.imul {x y : Int32} (hd : decode code pc = .ok (.imul, 1)) (hp : pc + 1 = pc') (hr : WP C Z code ml own rt nm R n0 Q cl sl h pc' Ls (.int (x * y) :: st)) : WP C Z code ml own rt nm R n0 Q cl sl h pc Ls (.int y :: .int x :: st) := by
  subst hp
  exact hr.pure fun X hx hby hown hZ eT t q => XS.imul X.here hx rfl (hb hby hd) rfl q
theorem WP.iand {x y : Int32} (hd : decode code pc = .ok (.iand, 1)) (hp : pc + 1 = pc') (hr : WP C Z code ml own rt nm R n0 Q cl sl h pc' Ls (.int (x &&& y) :: st)) : WP C Z code ml own rt nm R n0 Q cl sl h pc Ls (.int y :: .int x :: st) := by
  subst hp
  exact hr.pure fun X hx hby hown hZ eT t q => XS.iand X.here hx rfl (hb hby hd) rfl q
theorem WP.ior {x y : Int32} (hd : decode code pc = .ok (.ior, 1)) (hp : pc + 1 = pc') (hr : WP C Z code ml own rt nm R n0 Q cl sl h pc' Ls (.int (x ||| y) :: st)) : WP C Z code ml own rt nm R n0 Q cl sl h pc Ls (.int y :: .int x :: st) := by
  subst hp
  exact hr.pure fun X hx hby hown hZ eT t q => XS.ior X.here hx rfl (hb hby hd) rfl q
theorem WP.ixor {x y : Int32} (hd : decode code pc = .ok (.ixor, 1)) (hp : pc + 1 = pc') (hr : WP C Z code ml own rt nm R n0 Q cl sl h pc' Ls (.int (x ^^^ y) :: st)) : WP C Z code ml own rt nm R n0 Q cl sl h pc Ls (.int y :: .int x :: st) := by
  subst hp
  exact hr.pure fun X hx hby hown hZ eT t q => XS.ixor X.here hx rfl (hb hby hd) rfl q
theorem WP.ishl {x y : Int32} (hd : decode code pc = .ok (.ishl, 1)) (hp : pc + 1 = pc') (hr : WP C Z code ml own rt nm R n0 Q cl sl h pc' Ls (.int (x <<< (y &&& 31)) :: st)) : WP C Z code ml own rt nm R n0 Q cl sl h pc Ls (.int y :: .int x :: st) := by
  subst hp
  exact hr.pure fun X hx hby hown hZ eT t q => XS.ishl X.here hx rfl (hb hby hd) rfl q
theorem WP.ishr {x y : Int32} (hd : decode code pc = .ok (.ishr, 1)) (hp : pc + 1 = pc') (hr : WP C Z code ml own rt nm R n0 Q cl sl h pc' Ls (.int (x >>> (y &&& 31)) :: st)) : WP C Z code ml own rt nm R n0 Q cl sl h pc Ls (.int y :: .int x :: st) := by
  subst hp
  exact hr.pure fun X hx hby hown hZ eT t q => XS.ishr X.here hx rfl (hb hby hd) rfl q
theorem WP.iushr {x y : Int32} (hd : decode code pc = .ok (.iushr, 1)) (hp : pc + 1 = pc') (hr : WP C Z code ml own rt nm R n0 Q cl sl h pc' Ls (.int ((x.toUInt32 >>> (y &&& 31).toUInt32).toInt32) :: st)) : WP C Z code ml own rt nm R n0 Q cl sl h pc Ls (.int y :: .int x :: st) := by
  subst hp
  exact hr.pure fun X hx hby hown hZ eT t q => XS.iushr X.here hx rfl (hb hby hd) rfl q
theorem WP.ladd {x y : Int64} (hd : decode code pc = .ok (.ladd, 1)) (hp : pc + 1 = pc') (hr : WP C Z code ml own rt nm R n0 Q cl sl h pc' Ls (.long (x + y) :: st)) : WP C Z code ml own rt nm R n0 Q cl sl h pc Ls (.long y :: .long x :: st) := by
  subst hp
  exact hr.pure fun X hx hby hown hZ eT t q => XS.ladd X.here hx rfl (hb hby hd) rfl q
theorem WP.lsub {x y : Int64} (hd : decode code pc = .ok (.lsub, 1)) (hp : pc + 1 = pc') (hr : WP C Z code ml own rt nm R n0 Q cl sl h pc' Ls (.long (x - y) :: st)) : WP C Z code ml own rt nm R n0 Q cl sl h pc Ls (.long y :: .long x :: st) := by
  subst hp
  exact hr.pure fun X hx hby hown hZ eT t q => XS.lsub X.here hx rfl (hb hby hd) rfl q
theorem WP.lmul {x y : Int64} (hd : decode code pc = .ok (.lmul, 1)) (hp : pc + 1 = pc') (hr : WP C Z code ml own rt nm R n0 Q cl sl h pc' Ls (.long (x * y) :: st)) : WP C Z code ml own rt nm R n0 Q cl sl h pc Ls (.long y :: .long x :: st) := by
  subst hp
  exact hr.pure fun X hx hby hown hZ eT t q => XS.lmul X.here hx rfl (hb hby hd) rfl q
theorem WP.land {x y : Int64} (hd : decode code pc = .ok (.land, 1)) (hp : pc + 1 = pc') (hr : WP C Z code ml own rt nm R n0 Q cl sl h pc' Ls (.long (x &&& y) :: st)) : WP C Z code ml own rt nm R n0 Q cl sl h pc Ls (.long y :: .long x :: st) := by
  subst hp
  exact hr.pure fun X hx hby hown hZ eT t q => XS.land X.here hx rfl (hb hby hd) rfl q
theorem WP.lor {x y : Int64} (hd : decode code pc = .ok (.lor, 1)) (hp : pc + 1 = pc') (hr : WP C Z code ml own rt nm R n0 Q cl sl h pc' Ls (.long (x ||| y) :: st)) : WP C Z code ml own rt nm R n0 Q cl sl h pc Ls (.long y :: .long x :: st) := by
  subst hp
  exact hr.pure fun X hx hby hown hZ eT t q => XS.lor X.here hx rfl (hb hby hd) rfl q
theorem WP.lxor {x y : Int64} (hd : decode code pc = .ok (.lxor, 1)) (hp : pc + 1 = pc') (hr : WP C Z code ml own rt nm R n0 Q cl sl h pc' Ls (.long (x ^^^ y) :: st)) : WP C Z code ml own rt nm R n0 Q cl sl h pc Ls (.long y :: .long x :: st) := by
  subst hp
  exact hr.pure fun X hx hby hown hZ eT t q => XS.lxor X.here hx rfl (hb hby hd) rfl q
theorem WP.lshl {x : Int64} {y : Int32} (hd : decode code pc = .ok (.lshl, 1)) (hp : pc + 1 = pc') (hr : WP C Z code ml own rt nm R n0 Q cl sl h pc' Ls (.long (x <<< (y &&& 0x3f).toInt64) :: st)) : WP C Z code ml own rt nm R n0 Q cl sl h pc Ls (.int y :: .long x :: st) := by
  subst hp
  exact hr.pure fun X hx hby hown hZ eT t q => XS.lshl X.here hx rfl (hb hby hd) rfl q
theorem WP.lshr {x : Int64} {y : Int32} (hd : decode code pc = .ok (.lshr, 1)) (hp : pc + 1 = pc') (hr : WP C Z code ml own rt nm R n0 Q cl sl h pc' Ls (.long (x >>> (y &&& 0x3f).toInt64) :: st)) : WP C Z code ml own rt nm R n0 Q cl sl h pc Ls (.int y :: .long x :: st) := by
  subst hp
  exact hr.pure fun X hx hby hown hZ eT t q => XS.lshr X.here hx rfl (hb hby hd) rfl q
theorem WP.lushr {x : Int64} {y : Int32} (hd : decode code pc = .ok (.lushr, 1)) (hp : pc + 1 = pc') (hr : WP C Z code ml own rt nm R n0 Q cl sl h pc' Ls (.long ((x.toUInt64 >>> (y &&& 0x3f).toInt64.toUInt64).toInt64) :: st)) : WP C Z code ml own rt nm R n0 Q cl sl h pc Ls (.int y :: .long x :: st) := by
  subst hp
  exact hr.pure fun X hx hby hown hZ eT t q => XS.lushr X.here hx rfl (hb hby hd) rfl q
theorem WP.idiv {x y : Int32} (hd : decode code pc = .ok (.idiv, 1)) (hp : pc + 1 = pc') (hy : y ≠ 0) (hr : WP C Z code ml own rt nm R n0 Q cl sl h pc' Ls (.int (x / y) :: st)) : WP C Z code ml own rt nm R n0 Q cl sl h pc Ls (.int y :: .int x :: st) := by
  subst hp
  exact hr.pure fun X hx hby hown hZ eT t q => XS.idiv X.here hx rfl (hb hby hd) rfl hy q
theorem WP.irem {x y : Int32} (hd : decode code pc = .ok (.irem, 1)) (hp : pc + 1 = pc') (hy : y ≠ 0) (hr : WP C Z code ml own rt nm R n0 Q cl sl h pc' Ls (.int (x % y) :: st)) : WP C Z code ml own rt nm R n0 Q cl sl h pc Ls (.int y :: .int x :: st) := by
  subst hp
  exact hr.pure fun X hx hby hown hZ eT t q => iremM X hx rfl (hb hby hd) rfl hy q
theorem WP.ldiv {x y : Int64} (hd : decode code pc = .ok (.ldiv, 1)) (hp : pc + 1 = pc') (hy : y ≠ 0) (hr : WP C Z code ml own rt nm R n0 Q cl sl h pc' Ls (.long (x / y) :: st)) : WP C Z code ml own rt nm R n0 Q cl sl h pc Ls (.long y :: .long x :: st) := by
  subst hp
  exact hr.pure fun X hx hby hown hZ eT t q => XS.ldiv X.here hx rfl (hb hby hd) rfl hy q
theorem WP.lrem {x y : Int64} (hd : decode code pc = .ok (.lrem, 1)) (hp : pc + 1 = pc') (hy : y ≠ 0) (hr : WP C Z code ml own rt nm R n0 Q cl sl h pc' Ls (.long (x % y) :: st)) : WP C Z code ml own rt nm R n0 Q cl sl h pc Ls (.long y :: .long x :: st) := by
  subst hp
  exact hr.pure fun X hx hby hown hZ eT t q => XS.lrem X.here hx rfl (hb hby hd) rfl hy (by rw [lrem_mod]; exact q)
theorem WP.ineg {x : Int32} (hd : decode code pc = .ok (.ineg, 1)) (hp : pc + 1 = pc') (hr : WP C Z code ml own rt nm R n0 Q cl sl h pc' Ls (.int (-x) :: st)) : WP C Z code ml own rt nm R n0 Q cl sl h pc Ls (.int x :: st) := by
  subst hp
  exact hr.pure fun X hx hby hown hZ eT t q => XS.ineg X.here hx rfl (hb hby hd) rfl q
theorem WP.lneg {x : Int64} (hd : decode code pc = .ok (.lneg, 1)) (hp : pc + 1 = pc') (hr : WP C Z code ml own rt nm R n0 Q cl sl h pc' Ls (.long (-x) :: st)) : WP C Z code ml own rt nm R n0 Q cl sl h pc Ls (.long x :: st) := by
  subst hp
  exact hr.pure fun X hx hby hown hZ eT t q => XS.lneg X.here hx rfl (hb hby hd) rfl q
theorem WP.i2l {x : Int32} (hd : decode code pc = .ok (.i2l, 1)) (hp : pc + 1 = pc') (hr : WP C Z code ml own rt nm R n0 Q cl sl h pc' Ls (.long (x.toInt64) :: st)) : WP C Z code ml own rt nm R n0 Q cl sl h pc Ls (.int x :: st) := by
  subst hp
  exact hr.pure fun X hx hby hown hZ eT t q => XS.i2l X.here hx rfl (hb hby hd) rfl q
theorem WP.l2i {x : Int64} (hd : decode code pc = .ok (.l2i, 1)) (hp : pc + 1 = pc') (hr : WP C Z code ml own rt nm R n0 Q cl sl h pc' Ls (.int (x.toInt32) :: st)) : WP C Z code ml own rt nm R n0 Q cl sl h pc Ls (.long x :: st) := by
  subst hp
  exact hr.pure fun X hx hby hown hZ eT t q => XS.l2i X.here hx rfl (hb hby hd) rfl q
theorem WP.i2b {x : Int32} (hd : decode code pc = .ok (.i2b, 1)) (hp : pc + 1 = pc') (hr : WP C Z code ml own rt nm R n0 Q cl sl h pc' Ls (.int (x.toInt8.toInt32) :: st)) : WP C Z code ml own rt nm R n0 Q cl sl h pc Ls (.int x :: st) := by
  subst hp
  exact hr.pure fun X hx hby hown hZ eT t q => XS.i2b X.here hx rfl (hb hby hd) rfl q
theorem WP.i2c {x : Int32} (hd : decode code pc = .ok (.i2c, 1)) (hp : pc + 1 = pc') (hr : WP C Z code ml own rt nm R n0 Q cl sl h pc' Ls (.int (x.toUInt32.toUInt16.toUInt32.toInt32) :: st)) : WP C Z code ml own rt nm R n0 Q cl sl h pc Ls (.int x :: st) := by
  subst hp
  exact hr.pure fun X hx hby hown hZ eT t q => XS.i2c X.here hx rfl (hb hby hd) rfl q
theorem WP.i2s {x : Int32} (hd : decode code pc = .ok (.i2s, 1)) (hp : pc + 1 = pc') (hr : WP C Z code ml own rt nm R n0 Q cl sl h pc' Ls (.int (x.toInt16.toInt32) :: st)) : WP C Z code ml own rt nm R n0 Q cl sl h pc Ls (.int x :: st) := by
  subst hp
  exact hr.pure fun X hx hby hown hZ eT t q => XS.i2s X.here hx rfl (hb hby hd) rfl q
theorem WP.dup {x : Value} (hd : decode code pc = .ok (.dup, 1)) (hp : pc + 1 = pc') (hc : x.category = 1) (hr : WP C Z code ml own rt nm R n0 Q cl sl h pc' Ls (x :: x :: st)) : WP C Z code ml own rt nm R n0 Q cl sl h pc Ls (x :: st) := by
  subst hp
  exact hr.pure fun X hx hby hown hZ eT t q => XS.dup X.here hx rfl (hb hby hd) rfl hc q
theorem WP.pop {x : Value} (hd : decode code pc = .ok (.pop, 1)) (hp : pc + 1 = pc') (hc : x.category = 1) (hr : WP C Z code ml own rt nm R n0 Q cl sl h pc' Ls st) : WP C Z code ml own rt nm R n0 Q cl sl h pc Ls (x :: st) := by
  subst hp
  exact hr.pure fun X hx hby hown hZ eT t q => XS.pop X.here hx rfl (hb hby hd) rfl hc q
theorem WP.dupX1 {x y : Value} (hd : decode code pc = .ok (.dup_x1, 1)) (hp : pc + 1 = pc') (hc : x.category = 1) (hc' : y.category = 1) (hr : WP C Z code ml own rt nm R n0 Q cl sl h pc' Ls (x :: y :: x :: st)) : WP C Z code ml own rt nm R n0 Q cl sl h pc Ls (x :: y :: st) := by
  subst hp
  exact hr.pure fun X hx hby hown hZ eT t q => XS.dupX1 X.here hx rfl (hb hby hd) rfl hc hc' q
theorem WP.dup2 {x y : Value} (hd : decode code pc = .ok (.dup2, 1)) (hp : pc + 1 = pc') (hc : x.category = 1) (hc' : y.category = 1) (hr : WP C Z code ml own rt nm R n0 Q cl sl h pc' Ls (x :: y :: x :: y :: st)) : WP C Z code ml own rt nm R n0 Q cl sl h pc Ls (x :: y :: st) := by
  subst hp
  exact hr.pure fun X hx hby hown hZ eT t q => Jvm.Free.XT.dup2 X.here hx rfl (hb hby hd) rfl hc hc' q
theorem WP.dup2L {x : Int64} (hd : decode code pc = .ok (.dup2, 1)) (hp : pc + 1 = pc') (hr : WP C Z code ml own rt nm R n0 Q cl sl h pc' Ls (.long x :: .long x :: st)) : WP C Z code ml own rt nm R n0 Q cl sl h pc Ls (.long x :: st) := by
  subst hp
  exact hr.pure fun X hx hby hown hZ eT t q => Jvm.Free.XT.dup2L X.here hx rfl (hb hby hd) rfl q
theorem WP.iinc {k : Nat} {i : Int} {x z : Int32} (hd : decode code pc = .ok (.iinc k i, 3)) (hp : pc + 3 = pc') (hl : Ls[k]? = some (.val (.int x))) (hz : x + Int32.ofInt i = z) (hl' : storeLocals Ls k (.int z) = some Ls') (hr : WP C Z code ml own rt nm R n0 Q cl sl h pc' Ls' st) : WP C Z code ml own rt nm R n0 Q cl sl h pc Ls st := by
  subst hp
  subst hz
  exact hr.pure fun X hx hby hown hZ eT t q => XS.iinc X.here hx rfl (hb hby hd) hl hl' q
theorem WP.ldc2D {i : Nat} {v : UInt64} (hd : decode code pc = .ok (.ldc2_w i, 3)) (hp : pc + 3 = pc') (w : (Jvm.Cond.constantDouble own i v).before a0 Z = true) (hr : WP C Z code ml own rt nm R n0 Q cl sl h pc' Ls (.double v :: st)) : WP C Z code ml own rt nm R n0 Q cl sl h pc Ls st := by
  subst hp
  exact hr.pure fun X hx hby hown hZ eT t q => X.ldc2DoubleC hx hown (mvT hZ w) (g := mkF _ pc Ls st) rfl (hb hby hd) t q
theorem WP.dconst0 {v : UInt64} (hd : decode code pc = .ok (.dconst 0, 1)) (hp : pc + 1 = pc') (hv : FP.dconst0 = v) (hr : WP C Z code ml own rt nm R n0 Q cl sl h pc' Ls (.double v :: st)) : WP C Z code ml own rt nm R n0 Q cl sl h pc Ls st := by
  subst hp
  exact hr.pure fun X hx hby hown hZ eT t q => XS.dconst0 X.here hx rfl (hb hby hd) hv q
theorem WP.dconst1 {v : UInt64} (hd : decode code pc = .ok (.dconst 1, 1)) (hp : pc + 1 = pc') (hv : FP.dconst1 = v) (hr : WP C Z code ml own rt nm R n0 Q cl sl h pc' Ls (.double v :: st)) : WP C Z code ml own rt nm R n0 Q cl sl h pc Ls st := by
  subst hp
  exact hr.pure fun X hx hby hown hZ eT t q => XS.dconst1 X.here hx rfl (hb hby hd) hv q
theorem WP.i2d {x : Int32} {v : UInt64} (hd : decode code pc = .ok (.i2d, 1)) (hp : pc + 1 = pc') (hv : FP.i2d x = v) (hr : WP C Z code ml own rt nm R n0 Q cl sl h pc' Ls (.double v :: st)) : WP C Z code ml own rt nm R n0 Q cl sl h pc Ls (.int x :: st) := by
  subst hp
  exact hr.pure fun X hx hby hown hZ eT t q => XS.i2dS X.here hx rfl (hb hby hd) rfl hv q
theorem WP.l2d {x : Int64} {v : UInt64} (hd : decode code pc = .ok (.l2d, 1)) (hp : pc + 1 = pc') (hv : FP.l2d x = v) (hr : WP C Z code ml own rt nm R n0 Q cl sl h pc' Ls (.double v :: st)) : WP C Z code ml own rt nm R n0 Q cl sl h pc Ls (.long x :: st) := by
  subst hp
  exact hr.pure fun X hx hby hown hZ eT t q => XS.l2dS X.here hx rfl (hb hby hd) rfl hv q
theorem WP.dcmp {o : CmpOp} {x y : UInt64} {v : Int32} (hd : decode code pc = .ok (.dcmp o, 1)) (hp : pc + 1 = pc') (hv : cmpValue (FP.dcmp x y) o = v) (hr : WP C Z code ml own rt nm R n0 Q cl sl h pc' Ls (.int v :: st)) : WP C Z code ml own rt nm R n0 Q cl sl h pc Ls (.double y :: .double x :: st) := by
  subst hp
  exact hr.pure fun X hx hby hown hZ eT t q => XS.dcmpS X.here hx rfl (hb hby hd) rfl hv q
theorem WP.dadd {x y v : UInt64} (hd : decode code pc = .ok (.dadd, 1)) (hp : pc + 1 = pc') (hn : Jvm.Free.Fl.NoNaN64 (FP.dadd x y)) (hv : FP.dadd x y = v) (hr : WP C Z code ml own rt nm R n0 Q cl sl h pc' Ls (.double v :: st)) : WP C Z code ml own rt nm R n0 Q cl sl h pc Ls (.double y :: .double x :: st) := by
  subst hp
  exact hr.pure fun X hx hby hown hZ eT t q => XS.daddS X.here hx rfl (hb hby hd) rfl hn hv q
theorem WP.dsub {x y v : UInt64} (hd : decode code pc = .ok (.dsub, 1)) (hp : pc + 1 = pc') (hn : Jvm.Free.Fl.NoNaN64 (FP.dsub x y)) (hv : FP.dsub x y = v) (hr : WP C Z code ml own rt nm R n0 Q cl sl h pc' Ls (.double v :: st)) : WP C Z code ml own rt nm R n0 Q cl sl h pc Ls (.double y :: .double x :: st) := by
  subst hp
  exact hr.pure fun X hx hby hown hZ eT t q => XS.dsubS X.here hx rfl (hb hby hd) rfl hn hv q
theorem WP.dmul {x y v : UInt64} (hd : decode code pc = .ok (.dmul, 1)) (hp : pc + 1 = pc') (hn : Jvm.Free.Fl.NoNaN64 (FP.dmul x y)) (hv : FP.dmul x y = v) (hr : WP C Z code ml own rt nm R n0 Q cl sl h pc' Ls (.double v :: st)) : WP C Z code ml own rt nm R n0 Q cl sl h pc Ls (.double y :: .double x :: st) := by
  subst hp
  exact hr.pure fun X hx hby hown hZ eT t q => XS.dmulS X.here hx rfl (hb hby hd) rfl hn hv q
theorem WP.ddiv {x y v : UInt64} (hd : decode code pc = .ok (.ddiv, 1)) (hp : pc + 1 = pc') (hn : Jvm.Free.Fl.NoNaN64 (FP.ddiv x y)) (hv : FP.ddiv x y = v) (hr : WP C Z code ml own rt nm R n0 Q cl sl h pc' Ls (.double v :: st)) : WP C Z code ml own rt nm R n0 Q cl sl h pc Ls (.double y :: .double x :: st) := by
  subst hp
  exact hr.pure fun X hx hby hown hZ eT t q => XS.ddivS X.here hx rfl (hb hby hd) rfl hn hv q
theorem WP.lcmp {x y : Int64} (hd : decode code pc = .ok (.lcmp, 1)) (hp : pc + 1 = pc') (hr : WP C Z code ml own rt nm R n0 Q cl sl h pc' Ls (.int (lcmpW x y) :: st)) : WP C Z code ml own rt nm R n0 Q cl sl h pc Ls (.long y :: .long x :: st) := by
  subst hp
  exact hr.pure fun X hx hby hown hZ eT t q => XS.lcmp X.here hx rfl (hb hby hd) rfl q
theorem WP.goto {o : Int} (hd : decode code pc = .ok (.goto o, 3)) (ho : 0 ≤ (pc : Int) + o) (hp : ((pc : Int) + o).toNat = pc') (hr : WP C Z code ml own rt nm R n0 Q cl sl h pc' Ls st) : WP C Z code ml own rt nm R n0 Q cl sl h pc Ls st :=
  hr.pure fun X hx hby hown hZ eT t q => XS.goto X.here hx rfl (pc0 := pc) rfl (hb hby hd) ho hp q
theorem WP.icmp {pc1 pc2 : Nat} {x y : Int32} {cd : ClassFile.Cond} {o : Int} (hd : decode code pc = .ok (.if_icmp cd o, 3)) (ho : 0 ≤ (pc : Int) + o) (hp : ((pc : Int) + o).toNat = pc1) (hp2 : pc + 3 = pc2) (hy : if_icmp.holds cd x y = true → WP C Z code ml own rt nm R n0 Q cl sl h pc1 Ls st) (hn : if_icmp.holds cd x y = false → WP C Z code ml own rt nm R n0 Q cl sl h pc2 Ls st) : WP C Z code ml own rt nm R n0 Q cl sl h pc Ls (.int y :: .int x :: st) := by
  subst hp2
  cases hq : if_icmp.holds cd x y with
  | true => exact (hy hq).pure fun X hx hby hown hZ eT t q => XS.icmpYes X.here hx rfl (pc0 := pc) rfl (hb hby hd) rfl hq ho hp q
  | false => exact (hn hq).pure fun X hx hby hown hZ eT t q => XS.icmpNo X.here hx rfl (hb hby hd) rfl hq q
theorem WP.icmp_lt {pc1 pc2 : Nat} {x y : Int32} {o : Int} (hd : decode code pc = .ok (.if_icmp .lt o, 3)) (ho : 0 ≤ (pc : Int) + o) (hp : ((pc : Int) + o).toNat = pc1) (hp2 : pc + 3 = pc2) (hy : x < y → WP C Z code ml own rt nm R n0 Q cl sl h pc1 Ls st) (hn : ¬ x < y → WP C Z code ml own rt nm R n0 Q cl sl h pc2 Ls st) : WP C Z code ml own rt nm R n0 Q cl sl h pc Ls (.int y :: .int x :: st) :=
  WP.icmp hd ho hp hp2 (fun hq => hy (Decidable.byContradiction fun k => by rw [(flt k).1] at hq; cases hq)) (fun hq => hn (fun k => by rw [(tlt k).1] at hq; cases hq))
theorem WP.icmp_ge {pc1 pc2 : Nat} {x y : Int32} {o : Int} (hd : decode code pc = .ok (.if_icmp .ge o, 3)) (ho : 0 ≤ (pc : Int) + o) (hp : ((pc : Int) + o).toNat = pc1) (hp2 : pc + 3 = pc2) (hy : ¬ x < y → WP C Z code ml own rt nm R n0 Q cl sl h pc1 Ls st) (hn : x < y → WP C Z code ml own rt nm R n0 Q cl sl h pc2 Ls st) : WP C Z code ml own rt nm R n0 Q cl sl h pc Ls (.int y :: .int x :: st) :=
  WP.icmp hd ho hp hp2 (fun hq => hy (fun k => by rw [(tlt k).2.1] at hq; cases hq)) (fun hq => hn (Decidable.byContradiction fun k => by rw [(flt k).2.1] at hq; cases hq))
theorem WP.icmp_gt {pc1 pc2 : Nat} {x y : Int32} {o : Int} (hd : decode code pc = .ok (.if_icmp .gt o, 3)) (ho : 0 ≤ (pc : Int) + o) (hp : ((pc : Int) + o).toNat = pc1) (hp2 : pc + 3 = pc2) (hy : y < x → WP C Z code ml own rt nm R n0 Q cl sl h pc1 Ls st) (hn : ¬ y < x → WP C Z code ml own rt nm R n0 Q cl sl h pc2 Ls st) : WP C Z code ml own rt nm R n0 Q cl sl h pc Ls (.int y :: .int x :: st) :=
  WP.icmp hd ho hp hp2 (fun hq => hy (Decidable.byContradiction fun k => by rw [(flt k).2.2.1] at hq; cases hq)) (fun hq => hn (fun k => by rw [(tlt k).2.2.1] at hq; cases hq))
theorem WP.icmp_le {pc1 pc2 : Nat} {x y : Int32} {o : Int} (hd : decode code pc = .ok (.if_icmp .le o, 3)) (ho : 0 ≤ (pc : Int) + o) (hp : ((pc : Int) + o).toNat = pc1) (hp2 : pc + 3 = pc2) (hy : ¬ y < x → WP C Z code ml own rt nm R n0 Q cl sl h pc1 Ls st) (hn : y < x → WP C Z code ml own rt nm R n0 Q cl sl h pc2 Ls st) : WP C Z code ml own rt nm R n0 Q cl sl h pc Ls (.int y :: .int x :: st) :=
  WP.icmp hd ho hp hp2 (fun hq => hy (fun k => by rw [(tlt k).2.2.2] at hq; cases hq)) (fun hq => hn (Decidable.byContradiction fun k => by rw [(flt k).2.2.2] at hq; cases hq))
theorem WP.icmp_eq {pc1 pc2 : Nat} {x y : Int32} {o : Int} (hd : decode code pc = .ok (.if_icmp .eq o, 3)) (ho : 0 ≤ (pc : Int) + o) (hp : ((pc : Int) + o).toNat = pc1) (hp2 : pc + 3 = pc2) (hy : x = y → WP C Z code ml own rt nm R n0 Q cl sl h pc1 Ls st) (hn : ¬ x = y → WP C Z code ml own rt nm R n0 Q cl sl h pc2 Ls st) : WP C Z code ml own rt nm R n0 Q cl sl h pc Ls (.int y :: .int x :: st) :=
  WP.icmp hd ho hp hp2 (fun hq => hy (Decidable.byContradiction fun k => by rw [(feq k).1] at hq; cases hq)) (fun hq => hn (fun k => by rw [(teq k).1] at hq; cases hq))
theorem WP.icmp_ne {pc1 pc2 : Nat} {x y : Int32} {o : Int} (hd : decode code pc = .ok (.if_icmp .ne o, 3)) (ho : 0 ≤ (pc : Int) + o) (hp : ((pc : Int) + o).toNat = pc1) (hp2 : pc + 3 = pc2) (hy : ¬ x = y → WP C Z code ml own rt nm R n0 Q cl sl h pc1 Ls st) (hn : x = y → WP C Z code ml own rt nm R n0 Q cl sl h pc2 Ls st) : WP C Z code ml own rt nm R n0 Q cl sl h pc Ls (.int y :: .int x :: st) :=
  WP.icmp hd ho hp hp2 (fun hq => hy (fun k => by rw [(teq k).2] at hq; cases hq)) (fun hq => hn (Decidable.byContradiction fun k => by rw [(feq k).2] at hq; cases hq))
theorem WP.ifc {pc1 pc2 : Nat} {x : Int32} {cd : ClassFile.Cond} {o : Int} (hd : decode code pc = .ok (.ifCond cd o, 3)) (ho : 0 ≤ (pc : Int) + o) (hp : ((pc : Int) + o).toNat = pc1) (hp2 : pc + 3 = pc2) (hy : ifCond.holds cd x = true → WP C Z code ml own rt nm R n0 Q cl sl h pc1 Ls st) (hn : ifCond.holds cd x = false → WP C Z code ml own rt nm R n0 Q cl sl h pc2 Ls st) : WP C Z code ml own rt nm R n0 Q cl sl h pc Ls (.int x :: st) := by
  subst hp2
  cases hq : ifCond.holds cd x with
  | true => exact (hy hq).pure fun X hx hby hown hZ eT t q => XS.ifYes X.here hx rfl (pc0 := pc) rfl (hb hby hd) rfl hq ho hp q
  | false => exact (hn hq).pure fun X hx hby hown hZ eT t q => XS.ifNo X.here hx rfl (hb hby hd) rfl hq q
theorem WP.ifc_lt {pc1 pc2 : Nat} {x : Int32} {o : Int} (hd : decode code pc = .ok (.ifCond .lt o, 3)) (ho : 0 ≤ (pc : Int) + o) (hp : ((pc : Int) + o).toNat = pc1) (hp2 : pc + 3 = pc2) (hy : x < (0 : Int32) → WP C Z code ml own rt nm R n0 Q cl sl h pc1 Ls st) (hn : ¬ x < (0 : Int32) → WP C Z code ml own rt nm R n0 Q cl sl h pc2 Ls st) : WP C Z code ml own rt nm R n0 Q cl sl h pc Ls (.int x :: st) :=
  WP.ifc hd ho hp hp2 (fun hq => hy (Decidable.byContradiction fun k => by rw [(if0 _ _).trans (flt k).1] at hq; cases hq)) (fun hq => hn (fun k => by rw [(if0 _ _).trans (tlt k).1] at hq; cases hq))
theorem WP.ifc_ge {pc1 pc2 : Nat} {x : Int32} {o : Int} (hd : decode code pc = .ok (.ifCond .ge o, 3)) (ho : 0 ≤ (pc : Int) + o) (hp : ((pc : Int) + o).toNat = pc1) (hp2 : pc + 3 = pc2) (hy : ¬ x < (0 : Int32) → WP C Z code ml own rt nm R n0 Q cl sl h pc1 Ls st) (hn : x < (0 : Int32) → WP C Z code ml own rt nm R n0 Q cl sl h pc2 Ls st) : WP C Z code ml own rt nm R n0 Q cl sl h pc Ls (.int x :: st) :=
  WP.ifc hd ho hp hp2 (fun hq => hy (fun k => by rw [(if0 _ _).trans (tlt k).2.1] at hq; cases hq)) (fun hq => hn (Decidable.byContradiction fun k => by rw [(if0 _ _).trans (flt k).2.1] at hq; cases hq))
theorem WP.ifc_gt {pc1 pc2 : Nat} {x : Int32} {o : Int} (hd : decode code pc = .ok (.ifCond .gt o, 3)) (ho : 0 ≤ (pc : Int) + o) (hp : ((pc : Int) + o).toNat = pc1) (hp2 : pc + 3 = pc2) (hy : (0 : Int32) < x → WP C Z code ml own rt nm R n0 Q cl sl h pc1 Ls st) (hn : ¬ (0 : Int32) < x → WP C Z code ml own rt nm R n0 Q cl sl h pc2 Ls st) : WP C Z code ml own rt nm R n0 Q cl sl h pc Ls (.int x :: st) :=
  WP.ifc hd ho hp hp2 (fun hq => hy (Decidable.byContradiction fun k => by rw [(if0 _ _).trans (flt k).2.2.1] at hq; cases hq)) (fun hq => hn (fun k => by rw [(if0 _ _).trans (tlt k).2.2.1] at hq; cases hq))
theorem WP.ifc_le {pc1 pc2 : Nat} {x : Int32} {o : Int} (hd : decode code pc = .ok (.ifCond .le o, 3)) (ho : 0 ≤ (pc : Int) + o) (hp : ((pc : Int) + o).toNat = pc1) (hp2 : pc + 3 = pc2) (hy : ¬ (0 : Int32) < x → WP C Z code ml own rt nm R n0 Q cl sl h pc1 Ls st) (hn : (0 : Int32) < x → WP C Z code ml own rt nm R n0 Q cl sl h pc2 Ls st) : WP C Z code ml own rt nm R n0 Q cl sl h pc Ls (.int x :: st) :=
  WP.ifc hd ho hp hp2 (fun hq => hy (fun k => by rw [(if0 _ _).trans (tlt k).2.2.2] at hq; cases hq)) (fun hq => hn (Decidable.byContradiction fun k => by rw [(if0 _ _).trans (flt k).2.2.2] at hq; cases hq))
theorem WP.ifc_eq {pc1 pc2 : Nat} {x : Int32} {o : Int} (hd : decode code pc = .ok (.ifCond .eq o, 3)) (ho : 0 ≤ (pc : Int) + o) (hp : ((pc : Int) + o).toNat = pc1) (hp2 : pc + 3 = pc2) (hy : x = (0 : Int32) → WP C Z code ml own rt nm R n0 Q cl sl h pc1 Ls st) (hn : ¬ x = (0 : Int32) → WP C Z code ml own rt nm R n0 Q cl sl h pc2 Ls st) : WP C Z code ml own rt nm R n0 Q cl sl h pc Ls (.int x :: st) :=
  WP.ifc hd ho hp hp2 (fun hq => hy (Decidable.byContradiction fun k => by rw [(if0 _ _).trans (feq k).1] at hq; cases hq)) (fun hq => hn (fun k => by rw [(if0 _ _).trans (teq k).1] at hq; cases hq))
theorem WP.ifc_ne {pc1 pc2 : Nat} {x : Int32} {o : Int} (hd : decode code pc = .ok (.ifCond .ne o, 3)) (ho : 0 ≤ (pc : Int) + o) (hp : ((pc : Int) + o).toNat = pc1) (hp2 : pc + 3 = pc2) (hy : ¬ x = (0 : Int32) → WP C Z code ml own rt nm R n0 Q cl sl h pc1 Ls st) (hn : x = (0 : Int32) → WP C Z code ml own rt nm R n0 Q cl sl h pc2 Ls st) : WP C Z code ml own rt nm R n0 Q cl sl h pc Ls (.int x :: st) :=
  WP.ifc hd ho hp hp2 (fun hq => hy (fun k => by rw [(if0 _ _).trans (teq k).2] at hq; cases hq)) (fun hq => hn (Decidable.byContradiction fun k => by rw [(if0 _ _).trans (feq k).2] at hq; cases hq))
theorem WP.lcmp_lt {pc1 pc2 : Nat} {x y : Int64} {o : Int} (hd1 : decode code pc = .ok (.lcmp, 1)) (hp0 : pc + 1 = pc') (hd : decode code pc' = .ok (.ifCond .lt o, 3)) (ho : 0 ≤ (pc' : Int) + o) (hp : ((pc' : Int) + o).toNat = pc1) (hp2 : pc' + 3 = pc2) (hy : x < y → WP C Z code ml own rt nm R n0 Q cl sl h pc1 Ls st) (hn : ¬ x < y → WP C Z code ml own rt nm R n0 Q cl sl h pc2 Ls st) : WP C Z code ml own rt nm R n0 Q cl sl h pc Ls (.long y :: .long x :: st) :=
  WP.lcmp hd1 hp0 (WP.ifc_lt hd ho hp hp2 (fun k => hy ((lw_lt x y).mp k)) (fun k => hn (fun z => k ((lw_lt x y).mpr z))))
theorem WP.lcmp_ge {pc1 pc2 : Nat} {x y : Int64} {o : Int} (hd1 : decode code pc = .ok (.lcmp, 1)) (hp0 : pc + 1 = pc') (hd : decode code pc' = .ok (.ifCond .ge o, 3)) (ho : 0 ≤ (pc' : Int) + o) (hp : ((pc' : Int) + o).toNat = pc1) (hp2 : pc' + 3 = pc2) (hy : ¬ x < y → WP C Z code ml own rt nm R n0 Q cl sl h pc1 Ls st) (hn : x < y → WP C Z code ml own rt nm R n0 Q cl sl h pc2 Ls st) : WP C Z code ml own rt nm R n0 Q cl sl h pc Ls (.long y :: .long x :: st) :=
  WP.lcmp hd1 hp0 (WP.ifc_ge hd ho hp hp2 (fun k => hy (fun z => k ((lw_lt x y).mpr z))) (fun k => hn ((lw_lt x y).mp k)))
theorem WP.lcmp_gt {pc1 pc2 : Nat} {x y : Int64} {o : Int} (hd1 : decode code pc = .ok (.lcmp, 1)) (hp0 : pc + 1 = pc') (hd : decode code pc' = .ok (.ifCond .gt o, 3)) (ho : 0 ≤ (pc' : Int) + o) (hp : ((pc' : Int) + o).toNat = pc1) (hp2 : pc' + 3 = pc2) (hy : y < x → WP C Z code ml own rt nm R n0 Q cl sl h pc1 Ls st) (hn : ¬ y < x → WP C Z code ml own rt nm R n0 Q cl sl h pc2 Ls st) : WP C Z code ml own rt nm R n0 Q cl sl h pc Ls (.long y :: .long x :: st) :=
  WP.lcmp hd1 hp0 (WP.ifc_gt hd ho hp hp2 (fun k => hy ((lw_gt x y).mp k)) (fun k => hn (fun z => k ((lw_gt x y).mpr z))))
theorem WP.lcmp_le {pc1 pc2 : Nat} {x y : Int64} {o : Int} (hd1 : decode code pc = .ok (.lcmp, 1)) (hp0 : pc + 1 = pc') (hd : decode code pc' = .ok (.ifCond .le o, 3)) (ho : 0 ≤ (pc' : Int) + o) (hp : ((pc' : Int) + o).toNat = pc1) (hp2 : pc' + 3 = pc2) (hy : ¬ y < x → WP C Z code ml own rt nm R n0 Q cl sl h pc1 Ls st) (hn : y < x → WP C Z code ml own rt nm R n0 Q cl sl h pc2 Ls st) : WP C Z code ml own rt nm R n0 Q cl sl h pc Ls (.long y :: .long x :: st) :=
  WP.lcmp hd1 hp0 (WP.ifc_le hd ho hp hp2 (fun k => hy (fun z => k ((lw_gt x y).mpr z))) (fun k => hn ((lw_gt x y).mp k)))
theorem WP.lcmp_eq {pc1 pc2 : Nat} {x y : Int64} {o : Int} (hd1 : decode code pc = .ok (.lcmp, 1)) (hp0 : pc + 1 = pc') (hd : decode code pc' = .ok (.ifCond .eq o, 3)) (ho : 0 ≤ (pc' : Int) + o) (hp : ((pc' : Int) + o).toNat = pc1) (hp2 : pc' + 3 = pc2) (hy : x = y → WP C Z code ml own rt nm R n0 Q cl sl h pc1 Ls st) (hn : ¬ x = y → WP C Z code ml own rt nm R n0 Q cl sl h pc2 Ls st) : WP C Z code ml own rt nm R n0 Q cl sl h pc Ls (.long y :: .long x :: st) :=
  WP.lcmp hd1 hp0 (WP.ifc_eq hd ho hp hp2 (fun k => hy ((lw_eq x y).mp k)) (fun k => hn (fun z => k ((lw_eq x y).mpr z))))
theorem WP.lcmp_ne {pc1 pc2 : Nat} {x y : Int64} {o : Int} (hd1 : decode code pc = .ok (.lcmp, 1)) (hp0 : pc + 1 = pc') (hd : decode code pc' = .ok (.ifCond .ne o, 3)) (ho : 0 ≤ (pc' : Int) + o) (hp : ((pc' : Int) + o).toNat = pc1) (hp2 : pc' + 3 = pc2) (hy : ¬ x = y → WP C Z code ml own rt nm R n0 Q cl sl h pc1 Ls st) (hn : x = y → WP C Z code ml own rt nm R n0 Q cl sl h pc2 Ls st) : WP C Z code ml own rt nm R n0 Q cl sl h pc Ls (.long y :: .long x :: st) :=
  WP.lcmp hd1 hp0 (WP.ifc_ne hd ho hp hp2 (fun k => hy (fun z => k ((lw_eq x y).mpr z))) (fun k => hn ((lw_eq x y).mp k)))
theorem WP.ifnullY {b : Addr} {o : Int} (hd : decode code pc = .ok (.ifnull o, 3)) (ho : 0 ≤ (pc : Int) + o) (hp : ((pc : Int) + o).toNat = pc') (hr : WP C Z code ml own rt nm R n0 Q cl sl h pc' Ls st) : WP C Z code ml own rt nm R n0 Q cl sl h pc Ls (.null :: st) :=
  hr.pure fun X hx hby hown hZ eT t q => XS.ifnullYes X.here hx rfl (pc0 := pc) rfl (hb hby hd) rfl ho hp q
theorem WP.ifnullN {b : Addr} {o : Int} (hd : decode code pc = .ok (.ifnull o, 3)) (hp : pc + 3 = pc') (hr : WP C Z code ml own rt nm R n0 Q cl sl h pc' Ls st) : WP C Z code ml own rt nm R n0 Q cl sl h pc Ls (.ref b :: st) := by
  subst hp
  exact hr.pure fun X hx hby hown hZ eT t q => XS.ifnullNo X.here hx rfl (hb hby hd) rfl q
theorem WP.ifnonnullY {b : Addr} {o : Int} (hd : decode code pc = .ok (.ifnonnull o, 3)) (ho : 0 ≤ (pc : Int) + o) (hp : ((pc : Int) + o).toNat = pc') (hr : WP C Z code ml own rt nm R n0 Q cl sl h pc' Ls st) : WP C Z code ml own rt nm R n0 Q cl sl h pc Ls (.ref b :: st) :=
  hr.pure fun X hx hby hown hZ eT t q => XS.ifnonnullYes X.here hx rfl (pc0 := pc) rfl (hb hby hd) rfl ho hp q
theorem WP.ifnonnullN {b : Addr} {o : Int} (hd : decode code pc = .ok (.ifnonnull o, 3)) (hp : pc + 3 = pc') (hr : WP C Z code ml own rt nm R n0 Q cl sl h pc' Ls st) : WP C Z code ml own rt nm R n0 Q cl sl h pc Ls (.null :: st) := by
  subst hp
  exact hr.pure fun X hx hby hown hZ eT t q => XS.ifnonnullNo X.here hx rfl (hb hby hd) rfl q
theorem WP.acmp_eq {pc1 pc2 : Nat} {x y : Value} {o : Int} (hd : decode code pc = .ok (.if_acmp .eq o, 3)) (h1 : x.isRef = true) (h2 : y.isRef = true) (ho : 0 ≤ (pc : Int) + o) (hp : ((pc : Int) + o).toNat = pc1) (hp2 : pc + 3 = pc2) (hy : x = y → WP C Z code ml own rt nm R n0 Q cl sl h pc1 Ls st) (hn : ¬ x = y → WP C Z code ml own rt nm R n0 Q cl sl h pc2 Ls st) : WP C Z code ml own rt nm R n0 Q cl sl h pc Ls (y :: x :: st) := by
  by_cases k : x = y
  · exact (hy k).pure fun X hx hby hown hZ eT t q => Jvm.RoadKit.acmp X hx rfl h1 h2 (pc0 := pc) (same := true) rfl (hb hby hd) rfl (decide_eq_true k) ho (by simp [acV, hp, hp2]) q
  · exact (hn k).pure fun X hx hby hown hZ eT t q => Jvm.RoadKit.acmp X hx rfl h1 h2 (pc0 := pc) (same := false) rfl (hb hby hd) rfl (decide_eq_false k) ho (by simp [acV, hp, hp2]) q
theorem WP.acmp_ne {pc1 pc2 : Nat} {x y : Value} {o : Int} (hd : decode code pc = .ok (.if_acmp .ne o, 3)) (h1 : x.isRef = true) (h2 : y.isRef = true) (ho : 0 ≤ (pc : Int) + o) (hp : ((pc : Int) + o).toNat = pc1) (hp2 : pc + 3 = pc2) (hy : ¬ x = y → WP C Z code ml own rt nm R n0 Q cl sl h pc1 Ls st) (hn : x = y → WP C Z code ml own rt nm R n0 Q cl sl h pc2 Ls st) : WP C Z code ml own rt nm R n0 Q cl sl h pc Ls (y :: x :: st) := by
  by_cases k : x = y
  · exact (hn k).pure fun X hx hby hown hZ eT t q => Jvm.RoadKit.acmp X hx rfl h1 h2 (pc0 := pc) (same := true) rfl (hb hby hd) rfl (decide_eq_true k) ho (by simp [acV, hp, hp2]) q
  · exact (hy k).pure fun X hx hby hown hZ eT t q => Jvm.RoadKit.acmp X hx rfl h1 h2 (pc0 := pc) (same := false) rfl (hb hby hd) rfl (decide_eq_false k) ho (by simp [acV, hp, hp2]) q
theorem WP.getF {i : Nat} {R0 O n d host : String} {a : Addr} {v : Value} (hd : decode code pc = .ok (.getfield i, 3)) (hp : pc + 3 = pc') (w : (Jvm.Cond.fieldLink own i R0 n d).before a0 Z = true ∨ (Jvm.Cond.fieldLinkNest own i R0 n d host).before a0 Z = true) (via : Via Z R0 O n d) (F : Fld Z h a O n d v) (hr : WP C Z code ml own rt nm R n0 Q cl sl h pc' Ls (v :: st)) : WP C Z code ml own rt nm R n0 Q cl sl h pc Ls (.ref a :: st) := by
  subst hp
  refine hr.step fun X hx hby hml hown hZ hnm eT N => ?_
  obtain ⟨T', X', e', k⟩ := RoadKit.getF X hx hZ hown w via eT F (g := mkF _ pc Ls (.ref a :: st)) rfl rfl (hb hby hd)
  exact ⟨T', _, X', e', N, fun t q => k t q⟩
theorem WP.getS {i : Nat} {R0 O n d host : String} {v : Value} (hd : decode code pc = .ok (.getstatic i, 3)) (hp : pc + 3 = pc') (w : (Jvm.Cond.fieldLink own i R0 n d).before a0 Z = true ∨ (Jvm.Cond.fieldLinkNest own i R0 n d host).before a0 Z = true) (via : Via Z R0 O n d) (F : Sta Z h O n d v) (hr : WP C Z code ml own rt nm R n0 Q cl sl h pc' Ls (v :: st)) : WP C Z code ml own rt nm R n0 Q cl sl h pc Ls st := by
  subst hp
  refine hr.step fun X hx hby hml hown hZ hnm eT N => ?_
  obtain ⟨T', X', e', k⟩ := getS2 X hx hZ hown w via eT F (g := mkF _ pc Ls st) rfl (hb hby hd)
  exact ⟨T', _, X', e', N, fun t q => k t q⟩
theorem WP.putF {i kk : Nat} {R0 O n d host K : String} {ty : FieldType} {a : Addr} {v old : Value} (hd : decode code pc = .ok (.putfield i, 3)) (hp : pc + 3 = pc') (w : (Jvm.Cond.fieldLink own i R0 n d).before a0 Z = true ∨ (Jvm.Cond.fieldLinkNest own i R0 n d host).before a0 Z = true) (via : Via Z R0 O n d) (F : Fld Z h a O n d old) (E : Exa Z h a K) (L : (Jvm.Cond.lays K O n d).before a0 Z = true ∨ ((Jvm.Cond.laysFinal K O n d).before a0 Z = true ∧ own = O ∧ nm = "<init>")) (wi : (Jvm.Cond.instantiable K kk).before a0 Z = true)
    (hty : parseFieldDescriptor d = some ty) (hn : narrow ty v = v) (hf : fits ty v = true) (ge : n0 ≤ a) (hr : ∀ h', Wr h h' a (Jvm.RoadKit.slotOf Z O n d) v → WP C Z code ml own rt nm R n0 Q cl sl h' pc' Ls st) : WP C Z code ml own rt nm R n0 Q cl sl h pc Ls (v :: .ref a :: st) := by
  subst hp
  intro k1 k2 k3 k4 k5 k6 k7 k8 T locs X e N
  obtain ⟨T', h', X', e', W', k⟩ := RoadKit.putF X k1 k5 k4 w via e F E (L.imp id fun z => ⟨z.1, z.2.1, k8.trans z.2.2⟩) wi hty hn hf (g := mkF _ pc Ls (v :: .ref a :: st)) rfl rfl (hb k2 hd)
  obtain ⟨s₂, v', L', h1, h2⟩ := hr h' W' k1 k2 k3 k4 k5 k6 k7 k8 T' _ X' e' (Fr.snoc X' N ge)
  exact ⟨s₂, v', L', k _ h1, h2⟩
theorem WP.putFN {i kk : Nat} {R0 O n d K : String} {ty : FieldType} {a : Addr} {v v' old : Value} (hd : decode code pc = .ok (.putfield i, 3)) (hp : pc + 3 = pc') (w : (Jvm.Cond.fieldLink own i R0 n d).before a0 Z = true) (via : Via Z R0 O n d) (F : Fld Z h a O n d old) (E : Exa Z h a K) (L : (Jvm.Cond.lays K O n d).before a0 Z = true ∨ ((Jvm.Cond.laysFinal K O n d).before a0 Z = true ∧ own = O ∧ nm = "<init>")) (wi : (Jvm.Cond.instantiable K kk).before a0 Z = true)
    (hty : parseFieldDescriptor d = some ty) (hn : narrow ty v = v') (hf : fits ty v' = true) (ge : n0 ≤ a) (hr : ∀ h', Wr h h' a (Jvm.RoadKit.slotOf Z O n d) v' → WP C Z code ml own rt nm R n0 Q cl sl h' pc' Ls st) : WP C Z code ml own rt nm R n0 Q cl sl h pc Ls (v :: .ref a :: st) := by
  subst hp
  intro k1 k2 k3 k4 k5 k6 k7 k8 T locs X e N
  obtain ⟨T', h', X', e', W', k⟩ := RoadKit.putFN X k1 k5 k4 w via e F E (L.imp id fun z => ⟨z.1, z.2.1, k8.trans z.2.2⟩) wi hty hn hf (g := mkF _ pc Ls (v :: .ref a :: st)) rfl rfl (hb k2 hd)
  obtain ⟨s₂, v'', L', h1, h2⟩ := hr h' W' k1 k2 k3 k4 k5 k6 k7 k8 T' _ X' e' (Fr.snoc X' N ge)
  exact ⟨s₂, v'', L', k _ h1, h2⟩
theorem WP.newO {i n : Nat} {K : String} {cl' sl' : Nat} (hd : decode code pc = .ok (.new i, 3)) (hp : pc + 3 = pc') (w : (Jvm.Cond.classLink own i K).before a0 Z = true) (wi : (Jvm.Cond.instantiable K n).before a0 Z = true) (wz : (Jvm.Cond.initialized K).before a0 Z = true) (hc : cl + 1 = cl') (hs : sl + n = sl') (hc' : cl' ≤ R.cells) (hs' : sl' ≤ R.slots)
    (hr : ∀ h' a, a = h.size → Ext h h' → Exa Z h' a K → (∀ {O nf d : String} {ty : FieldType}, Laid Z a0 K O nf d → parseFieldDescriptor d = some ty → Fld Z h' a O nf d (defaultValue ty)) → WP C Z code ml own rt nm R n0 Q cl' sl' h' pc' Ls (.ref a :: st)) : WP C Z code ml own rt nm R n0 Q cl sl h pc Ls st := by
  subst hp hc hs
  intro k1 k2 k3 k4 k5 k6 k7 k8 T locs X e N
  obtain ⟨T', h', X', e', E', A', D', -, k⟩ := RoadKit.newO X k1 k5 k4 w wi wz e (g := mkF _ pc Ls st) rfl (hb k2 hd) hc' hs'
  obtain ⟨s₂, v', L', h1, h2⟩ := hr h' _ rfl E' A' D' k1 k2 k3 k4 k5 k6 k7 k8 T' _ X' e' N
  exact ⟨s₂, v', L', k _ h1, h2⟩
theorem WP.checkcast {i : Nat} {K : String} {a : Addr} (hd : decode code pc = .ok (.checkcast i, 3)) (hp : pc + 3 = pc') (w : (Jvm.Cond.classLink own i K).before a0 Z = true) (F : Ins Z h a K true) (hr : WP C Z code ml own rt nm R n0 Q cl sl h pc' Ls (.ref a :: st)) : WP C Z code ml own rt nm R n0 Q cl sl h pc Ls (.ref a :: st) := by
  subst hp
  refine hr.step fun X hx hby hml hown hZ hnm eT N => ?_
  obtain ⟨T', X', e', k⟩ := castY X hx hZ hown w eT F (g := mkF _ pc Ls (.ref a :: st)) rfl rfl (hb hby hd)
  exact ⟨T', _, X', e', N, fun t q => k t q⟩
theorem WP.instanceof {i : Nat} {K : String} {a : Addr} (hd : decode code pc = .ok (.instanceof i, 3)) (hp : pc + 3 = pc') (w : (Jvm.Cond.classLink own i K).before a0 Z = true) (F : Ins Z h a K true) (hr : WP C Z code ml own rt nm R n0 Q cl sl h pc' Ls (.int 1 :: st)) : WP C Z code ml own rt nm R n0 Q cl sl h pc Ls (.ref a :: st) := by
  subst hp
  refine hr.step fun X hx hby hml hown hZ hnm eT N => ?_
  obtain ⟨T', X', e', k⟩ := instY X hx hZ hown w eT F (g := mkF _ pc Ls (.ref a :: st)) rfl rfl (hb hby hd)
  exact ⟨T', _, X', e', N, fun t q => k t q⟩
/-- an array of n elements, the i-th is f i -/
def Arf (Z : State) (h : Heap) (a : Addr) (ty : FieldType) (n : Nat) (f : Nat → Value) : Prop := ∃ c : Cell, Arr Z h a c ty ∧ c.slots.size = n ∧ n < 2147483648 ∧ (∀ i, i < n → c.slots[i]? = some (f i)) ∧ ∀ i, i < n → fits ty (f i) = true
theorem Arf.lt {a : Addr} {ty : FieldType} {n : Nat} {f : Nat → Value} (A : Arf Z h a ty n f) : a < h.size := by obtain ⟨c, A, -⟩ := A; exact A.lt
theorem Arf.small {a : Addr} {ty : FieldType} {n : Nat} {f : Nat → Value} (A : Arf Z h a ty n f) : n < 2147483648 := by obtain ⟨c, -, -, h, -⟩ := A; exact h
theorem Arf.keep {h' : Heap} {ws : List Addr} {a : Addr} {ty : FieldType} {n : Nat} {f : Nat → Value} (A : Arf Z h a ty n f) (K : Keep h h' ws) (q : a ∉ ws) : Arf Z h' a ty n f := by obtain ⟨c, A, r⟩ := A; exact ⟨c, ⟨K.2.1 a c A.1 q, A.2⟩, r⟩
theorem Arf.ext {h' : Heap} {a : Addr} {ty : FieldType} {n : Nat} {f : Nat → Value} (A : Arf Z h a ty n f) (E : Ext h h') : Arf Z h' a ty n f := by obtain ⟨c, A, r⟩ := A; exact ⟨c, A.ext E, r⟩
theorem Arf.fit {a : Addr} {ty : FieldType} {n : Nat} {f : Nat → Value} (A : Arf Z h a ty n f) {i : Nat} (hi : i < n) : fits ty (f i) = true := by obtain ⟨c, -, -, -, -, r⟩ := A; exact r i hi
theorem Arf.congr {a : Addr} {ty : FieldType} {n : Nat} {f g : Nat → Value} (A : Arf Z h a ty n f) (q : ∀ i, i < n → f i = g i) : Arf Z h a ty n g := by
  obtain ⟨c, A, r1, r2, r3, r4⟩ := A; exact ⟨c, A, r1, r2, fun i hi => by rw [← q i hi]; exact r3 i hi, fun i hi => by rw [← q i hi]; exact r4 i hi⟩
theorem idxN {j : Int32} {i n : Nat} (hi : j.toInt = (i : Int)) (hl : i < n) : ¬ (j < 0 ∨ n ≤ j.toNatClampNeg) ∧ j.toNatClampNeg = i := by
  have e0 : (0 : Int32).toInt = 0 := rfl
  simp only [Int32.lt_iff_toInt_lt, Int32.toNatClampNeg, hi, e0]; omega
theorem WP.baload {a : Addr} {j : Int32} {n : Nat} {f : Nat → Value} {v : Value} (i : Nat) (hd : decode code pc = .ok (.baload, 1)) (hp : pc + 1 = pc') (A : Arf Z h a .byte n f) (hi : j.toInt = (i : Int)) (hl : i < n) (hv : f i = v) (hr : WP C Z code ml own rt nm R n0 Q cl sl h pc' Ls (v :: st)) : WP C Z code ml own rt nm R n0 Q cl sl h pc Ls (.int j :: .ref a :: st) := by
  subst hp hv
  obtain ⟨c, A, r1, r2, r3, r4⟩ := A
  obtain ⟨q1, q2⟩ := idxN hi hl
  exact hr.pure fun X hx hby hown hZ eT t q => X.baloadBytes hx (j := j) (by rw [eT]; exact A.1) (State.isArrayOf_alike hZ.alike A.2.1) A.2.2 (by rw [r1]; exact q1) (by rw [q2]; exact r3 i hl) (g := mkF _ pc Ls (.int j :: .ref a :: st)) rfl rfl (hb hby hd) t q
theorem WP.baloadZ {a : Addr} {j : Int32} {n : Nat} {f : Nat → Value} {v : Value} (i : Nat) (hd : decode code pc = .ok (.baload, 1)) (hp : pc + 1 = pc') (A : Arf Z h a .boolean n f) (hi : j.toInt = (i : Int)) (hl : i < n) (hv : f i = v) (hr : WP C Z code ml own rt nm R n0 Q cl sl h pc' Ls (v :: st)) : WP C Z code ml own rt nm R n0 Q cl sl h pc Ls (.int j :: .ref a :: st) := by
  subst hp hv
  obtain ⟨c, A, r1, r2, r3, r4⟩ := A
  obtain ⟨q1, q2⟩ := idxN hi hl
  exact hr.pure fun X hx hby hown hZ eT t q => X.baloadBooleans hx (j := j) (by rw [eT]; exact A.1) (State.isArrayOf_alike hZ.alike A.2.1) A.2.2 (by rw [r1]; exact q1) (by rw [q2]; exact r3 i hl) (g := mkF _ pc Ls (.int j :: .ref a :: st)) rfl rfl (hb hby hd) t q
theorem WP.caload {a : Addr} {j : Int32} {n : Nat} {f : Nat → Value} {v : Value} (i : Nat) (hd : decode code pc = .ok (.caload, 1)) (hp : pc + 1 = pc') (A : Arf Z h a .char n f) (hi : j.toInt = (i : Int)) (hl : i < n) (hv : f i = v) (hr : WP C Z code ml own rt nm R n0 Q cl sl h pc' Ls (v :: st)) : WP C Z code ml own rt nm R n0 Q cl sl h pc Ls (.int j :: .ref a :: st) := by
  subst hp hv
  obtain ⟨c, A, r1, r2, r3, r4⟩ := A
  obtain ⟨q1, q2⟩ := idxN hi hl
  exact hr.pure fun X hx hby hown hZ eT t q => X.caload hx (j := j) (by rw [eT]; exact A.1) (State.isArrayOf_alike hZ.alike A.2.1) A.2.2 (by rw [r1]; exact q1) (by rw [q2]; exact r3 i hl) (g := mkF _ pc Ls (.int j :: .ref a :: st)) rfl rfl (hb hby hd) t q
theorem WP.iaload {a : Addr} {j : Int32} {n : Nat} {f : Nat → Value} {v : Value} (i : Nat) (hd : decode code pc = .ok (.iaload, 1)) (hp : pc + 1 = pc') (A : Arf Z h a .int n f) (hi : j.toInt = (i : Int)) (hl : i < n) (hv : f i = v) (hr : WP C Z code ml own rt nm R n0 Q cl sl h pc' Ls (v :: st)) : WP C Z code ml own rt nm R n0 Q cl sl h pc Ls (.int j :: .ref a :: st) := by
  subst hp hv
  obtain ⟨c, A, r1, r2, r3, r4⟩ := A
  obtain ⟨q1, q2⟩ := idxN hi hl
  exact hr.pure fun X hx hby hown hZ eT t q => X.iaload hx (j := j) (by rw [eT]; exact A.1) (State.isArrayOf_alike hZ.alike A.2.1) A.2.2 (by rw [r1]; exact q1) (by rw [q2]; exact r3 i hl) (g := mkF _ pc Ls (.int j :: .ref a :: st)) rfl rfl (hb hby hd) t q
theorem WP.laload {a : Addr} {j : Int32} {n : Nat} {f : Nat → Value} {v : Value} (i : Nat) (hd : decode code pc = .ok (.laload, 1)) (hp : pc + 1 = pc') (A : Arf Z h a .long n f) (hi : j.toInt = (i : Int)) (hl : i < n) (hv : f i = v) (hr : WP C Z code ml own rt nm R n0 Q cl sl h pc' Ls (v :: st)) : WP C Z code ml own rt nm R n0 Q cl sl h pc Ls (.int j :: .ref a :: st) := by
  subst hp hv
  obtain ⟨c, A, r1, r2, r3, r4⟩ := A
  obtain ⟨q1, q2⟩ := idxN hi hl
  exact hr.pure fun X hx hby hown hZ eT t q => X.laload hx (j := j) (by rw [eT]; exact A.1) (State.isArrayOf_alike hZ.alike A.2.1) A.2.2 (by rw [r1]; exact q1) (by rw [q2]; exact r3 i hl) (g := mkF _ pc Ls (.int j :: .ref a :: st)) rfl rfl (hb hby hd) t q
theorem WP.saload {a : Addr} {j : Int32} {n : Nat} {f : Nat → Value} {v : Value} (i : Nat) (hd : decode code pc = .ok (.saload, 1)) (hp : pc + 1 = pc') (A : Arf Z h a .short n f) (hi : j.toInt = (i : Int)) (hl : i < n) (hv : f i = v) (hr : WP C Z code ml own rt nm R n0 Q cl sl h pc' Ls (v :: st)) : WP C Z code ml own rt nm R n0 Q cl sl h pc Ls (.int j :: .ref a :: st) := by
  subst hp hv
  obtain ⟨c, A, r1, r2, r3, r4⟩ := A
  obtain ⟨q1, q2⟩ := idxN hi hl
  exact hr.pure fun X hx hby hown hZ eT t q => X.saload hx (j := j) (by rw [eT]; exact A.1) (State.isArrayOf_alike hZ.alike A.2.1) A.2.2 (by rw [r1]; exact q1) (by rw [q2]; exact r3 i hl) (g := mkF _ pc Ls (.int j :: .ref a :: st)) rfl rfl (hb hby hd) t q
theorem WP.aaload {a : Addr} {j : Int32} {n : Nat} {f : Nat → Value} {v : Value} {ty : FieldType} (i : Nat) (hd : decode code pc = .ok (.aaload, 1)) (hp : pc + 1 = pc') (A : Arf Z h a ty n f) (hty : ty.isReference = true) (hi : j.toInt = (i : Int)) (hl : i < n) (hv : f i = v) (hr : WP C Z code ml own rt nm R n0 Q cl sl h pc' Ls (v :: st)) : WP C Z code ml own rt nm R n0 Q cl sl h pc Ls (.int j :: .ref a :: st) := by
  subst hp hv
  obtain ⟨c, A, r1, r2, r3, r4⟩ := A
  obtain ⟨q1, q2⟩ := idxN hi hl
  exact hr.pure fun X hx hby hown hZ eT t q => X.aaload hx (j := j) (by rw [eT]; exact A.1) (State.isArrayOf_alike hZ.alike A.2.1) hty A.2.2 (by rw [r1]; exact q1) (by rw [q2]; exact r3 i hl) (g := mkF _ pc Ls (.int j :: .ref a :: st)) rfl rfl (hb hby hd) t q
theorem WP.arraylength {a : Addr} {n : Nat} {f : Nat → Value} {ty : FieldType} {z : Int32} (hd : decode code pc = .ok (.arraylength, 1)) (hp : pc + 1 = pc') (A : Arf Z h a ty n f) (hz : n.toInt32 = z) (hr : WP C Z code ml own rt nm R n0 Q cl sl h pc' Ls (.int z :: st)) : WP C Z code ml own rt nm R n0 Q cl sl h pc Ls (.ref a :: st) := by
  subst hp hz
  obtain ⟨c, A, r1, r2, r3, r4⟩ := A
  exact hr.pure fun X hx hby hown hZ eT t q => X.arraylength hx (by rw [eT]; exact A.1) (State.isArrayOf_alike hZ.alike A.2.1) (g := mkF _ pc Ls (.ref a :: st)) rfl rfl (hb hby hd) t (by rw [r1]; exact q)
theorem Arf.set {h' : Heap} {a : Addr} {ty : FieldType} {n : Nat} {f : Nat → Value} {c : Cell} {v : Value} {j : Int32} {i : Nat} (A : Arr Z h a c ty) (r1 : c.slots.size = n) (r2 : n < 2147483648) (r3 : ∀ i, i < n → c.slots[i]? = some (f i)) (r4 : ∀ i, i < n → fits ty (f i) = true) (hv : fits ty v = true) (W : Wr h h' a j.toNatClampNeg v) (hj : j.toNatClampNeg = i) (hl : i < n) : Arf Z h' a ty n (fun k => if k = i then v else f k) := by
  subst hj
  refine ⟨_, A.same W, by rw [sz_set]; exact r1, r2, fun k hk => ?_, fun k hk => ?_⟩
  · by_cases e : k = j.toNatClampNeg
    · show _ = some (if k = j.toNatClampNeg then v else f k)
      rw [if_pos e, e]; simp [Cell.setSlot, r1, hl]
    · show _ = some (if k = j.toNatClampNeg then v else f k)
      rw [if_neg e, ← r3 k hk]; exact Array.getElem?_setIfInBounds_ne (Ne.symm e)
  · by_cases e : k = j.toNatClampNeg
    · simp only [if_pos e]; exact hv
    · simp only [if_neg e]; exact r4 k hk
theorem WP.bastore {a : Addr} {j : Int32} {x : Int32} {n : Nat} {f : Nat → Value} (i : Nat) (hd : decode code pc = .ok (.bastore, 1)) (hp : pc + 1 = pc') (A : Arf Z h a .byte n f) (hi : j.toInt = (i : Int)) (hl : i < n) (ge : n0 ≤ a) (hr : ∀ h', Keep h h' [a] → Arf Z h' a .byte n (fun k => if k = i then .int (nar .byte x) else f k) → WP C Z code ml own rt nm R n0 Q cl sl h' pc' Ls st) : WP C Z code ml own rt nm R n0 Q cl sl h pc Ls (.int x :: .int j :: .ref a :: st) := by
  subst hp
  obtain ⟨c, A, r1, r2, r3, r4⟩ := A
  obtain ⟨q1, q2⟩ := idxN hi hl
  intro k1 k2 k3 k4 k5 k6 k7 k8 T locs X e N
  obtain ⟨T', h', X', e', W', k⟩ := stB X k1 k5 e A (j := j) (x := x) (by rw [r1]; exact q1) (g := mkF _ pc Ls (.int x :: .int j :: .ref a :: st)) rfl rfl (hb k2 hd)
  obtain ⟨s₂, v', L', h1, h2⟩ := hr h' (Keep.of_wr W') (Arf.set A r1 r2 r3 r4 (fits_nar_byte x) W' q2 hl) k1 k2 k3 k4 k5 k6 k7 k8 T' _ X' e' (Fr.snoc X' N ge)
  exact ⟨s₂, v', L', k _ h1, h2⟩
theorem WP.castore {a : Addr} {j : Int32} {x : Int32} {n : Nat} {f : Nat → Value} (i : Nat) (hd : decode code pc = .ok (.castore, 1)) (hp : pc + 1 = pc') (A : Arf Z h a .char n f) (hi : j.toInt = (i : Int)) (hl : i < n) (ge : n0 ≤ a) (hr : ∀ h', Keep h h' [a] → Arf Z h' a .char n (fun k => if k = i then .int (nar .char x) else f k) → WP C Z code ml own rt nm R n0 Q cl sl h' pc' Ls st) : WP C Z code ml own rt nm R n0 Q cl sl h pc Ls (.int x :: .int j :: .ref a :: st) := by
  subst hp
  obtain ⟨c, A, r1, r2, r3, r4⟩ := A
  obtain ⟨q1, q2⟩ := idxN hi hl
  intro k1 k2 k3 k4 k5 k6 k7 k8 T locs X e N
  obtain ⟨T', h', X', e', W', k⟩ := stC X k1 k5 e A (j := j) (x := x) (by rw [r1]; exact q1) (g := mkF _ pc Ls (.int x :: .int j :: .ref a :: st)) rfl rfl (hb k2 hd)
  obtain ⟨s₂, v', L', h1, h2⟩ := hr h' (Keep.of_wr W') (Arf.set A r1 r2 r3 r4 (fits_nar_char x) W' q2 hl) k1 k2 k3 k4 k5 k6 k7 k8 T' _ X' e' (Fr.snoc X' N ge)
  exact ⟨s₂, v', L', k _ h1, h2⟩
theorem WP.iastore {a : Addr} {j : Int32} {x : Int32} {n : Nat} {f : Nat → Value} (i : Nat) (hd : decode code pc = .ok (.iastore, 1)) (hp : pc + 1 = pc') (A : Arf Z h a .int n f) (hi : j.toInt = (i : Int)) (hl : i < n) (ge : n0 ≤ a) (hr : ∀ h', Keep h h' [a] → Arf Z h' a .int n (fun k => if k = i then .int x else f k) → WP C Z code ml own rt nm R n0 Q cl sl h' pc' Ls st) : WP C Z code ml own rt nm R n0 Q cl sl h pc Ls (.int x :: .int j :: .ref a :: st) := by
  subst hp
  obtain ⟨c, A, r1, r2, r3, r4⟩ := A
  obtain ⟨q1, q2⟩ := idxN hi hl
  intro k1 k2 k3 k4 k5 k6 k7 k8 T locs X e N
  obtain ⟨T', h', X', e', W', k⟩ := stI X k1 k5 e A (j := j) (x := x) (by rw [r1]; exact q1) (g := mkF _ pc Ls (.int x :: .int j :: .ref a :: st)) rfl rfl (hb k2 hd)
  obtain ⟨s₂, v', L', h1, h2⟩ := hr h' (Keep.of_wr W') (Arf.set A r1 r2 r3 r4 rfl W' q2 hl) k1 k2 k3 k4 k5 k6 k7 k8 T' _ X' e' (Fr.snoc X' N ge)
  exact ⟨s₂, v', L', k _ h1, h2⟩
theorem WP.lastore {a : Addr} {j : Int32} {x : Int64} {n : Nat} {f : Nat → Value} (i : Nat) (hd : decode code pc = .ok (.lastore, 1)) (hp : pc + 1 = pc') (A : Arf Z h a .long n f) (hi : j.toInt = (i : Int)) (hl : i < n) (ge : n0 ≤ a) (hr : ∀ h', Keep h h' [a] → Arf Z h' a .long n (fun k => if k = i then .long x else f k) → WP C Z code ml own rt nm R n0 Q cl sl h' pc' Ls st) : WP C Z code ml own rt nm R n0 Q cl sl h pc Ls (.long x :: .int j :: .ref a :: st) := by
  subst hp
  obtain ⟨c, A, r1, r2, r3, r4⟩ := A
  obtain ⟨q1, q2⟩ := idxN hi hl
  intro k1 k2 k3 k4 k5 k6 k7 k8 T locs X e N
  obtain ⟨T', h', X', e', W', k⟩ := stJ X k1 k5 e A (j := j) (x := x) (by rw [r1]; exact q1) (g := mkF _ pc Ls (.long x :: .int j :: .ref a :: st)) rfl rfl (hb k2 hd)
  obtain ⟨s₂, v', L', h1, h2⟩ := hr h' (Keep.of_wr W') (Arf.set A r1 r2 r3 r4 rfl W' q2 hl) k1 k2 k3 k4 k5 k6 k7 k8 T' _ X' e' (Fr.snoc X' N ge)
  exact ⟨s₂, v', L', k _ h1, h2⟩
theorem WP.newP {aty : ArrayType} {z : Int32} {n cap : Nat} {cl' sl' : Nat} (hd : decode code pc = .ok (.newarray aty, 2)) (hp : pc + 2 = pc') (w : (Jvm.Cond.arrayClass (newarray.typeOf aty)).before a0 Z = true) (hz : z.toInt = (n : Int)) (hcap : n ≤ cap) (hbig : cap * 8 ≤ 536870912) (hc : cl + 1 = cl') (hs : sl + cap = sl') (hc' : cl' ≤ R.cells) (hs' : sl' ≤ R.slots)
    (hr : ∀ h' a, a = h.size → Ext h h' → Arf Z h' a (newarray.typeOf aty) n (fun _ => defaultValue (newarray.typeOf aty)) → WP C Z code ml own rt nm R n0 Q cl' sl' h' pc' Ls (.ref a :: st)) : WP C Z code ml own rt nm R n0 Q cl sl h pc Ls (.int z :: st) := by
  subst hp hc hs
  have e0 : (0 : Int32).toInt = 0 := rfl
  have hzn : z.toNatClampNeg = n := by simp only [Int32.toNatClampNeg, hz]; omega
  have hzl : n < 2147483648 := by have := z.toInt_lt; omega
  intro k1 k2 k3 k4 k5 k6 k7 k8 T locs X e N
  obtain ⟨T', h', cA, X', e', E', A', k⟩ := RoadKit.newP X k1 k5 w e (g := mkF _ pc Ls (.int z :: st)) rfl (hb k2 hd) rfl (by rw [Int32.lt_iff_toInt_lt, hz, e0]; omega) (cap := cap) (by rw [hzn]; exact hcap) hbig hc' hs'
  obtain ⟨s₂, v', L', h1, h2⟩ := hr h' _ rfl E' ⟨_, A', by rw [sz_new, hzn], hzl, fun i hi => by simp [newA, hzn, hi], fun i _ => by cases aty <;> rfl⟩ k1 k2 k3 k4 k5 k6 k7 k8 T' _ X' e' N
  exact ⟨s₂, v', L', k _ h1, h2⟩
def updI (g : Nat → Int32) (i : Nat) (x : Int32) : Nat → Int32 := fun k => if k = i then x else g k
def Ari (Z : State) (h : Heap) (a : Addr) (ty : FieldType) (n : Nat) (g : Nat → Int32) : Prop := Arf Z h a ty n (fun i => .int (g i))
theorem Ari.lt {a : Addr} {ty : FieldType} {n : Nat} {g : Nat → Int32} (A : Ari Z h a ty n g) : a < h.size := Arf.lt A
theorem Ari.small {a : Addr} {ty : FieldType} {n : Nat} {g : Nat → Int32} (A : Ari Z h a ty n g) : n < 2147483648 := Arf.small A
theorem Ari.keep {h' : Heap} {ws : List Addr} {a : Addr} {ty : FieldType} {n : Nat} {g : Nat → Int32} (A : Ari Z h a ty n g) (K : Keep h h' ws) (q : a ∉ ws) : Ari Z h' a ty n g := Arf.keep A K q
theorem Ari.ext {h' : Heap} {a : Addr} {ty : FieldType} {n : Nat} {g : Nat → Int32} (A : Ari Z h a ty n g) (E : Ext h h') : Ari Z h' a ty n g := Arf.ext A E
theorem Ari.congr {a : Addr} {ty : FieldType} {n : Nat} {f g : Nat → Int32} (A : Ari Z h a ty n f) (q : ∀ i, i < n → f i = g i) : Ari Z h a ty n g := Arf.congr A fun i hi => congrArg Value.int (q i hi)
theorem upd_at (g : Nat → Int32) (i : Nat) (x : Int32) : updI g i x i = x := if_pos rfl
theorem upd_ne {g : Nat → Int32} {i k : Nat} {x : Int32} (q : k ≠ i) : updI g i x k = g k := if_neg q
theorem upd_if (g : Nat → Int32) (i : Nat) (x : Int32) : (fun k => if k = i then Value.int x else Value.int (g k)) = fun k => Value.int (updI g i x k) := by funext k; unfold updI; split <;> rfl
theorem litN (z : Int32) (n : Nat) (h : z.toInt = (n : Int)) : z.toInt = (n : Int) := h
theorem WP.baloadI {a : Addr} {j : Int32} {n : Nat} {g : Nat → Int32} {v : Int32} (i : Nat) (hd : decode code pc = .ok (.baload, 1)) (hp : pc + 1 = pc') (A : Ari Z h a .byte n g) (hi : j.toInt = (i : Int)) (hl : i < n) (hv : g i = v) (hr : WP C Z code ml own rt nm R n0 Q cl sl h pc' Ls (.int v :: st)) : WP C Z code ml own rt nm R n0 Q cl sl h pc Ls (.int j :: .ref a :: st) := WP.baload i hd hp A hi hl (congrArg Value.int hv) hr
theorem WP.baloadZI {a : Addr} {j : Int32} {n : Nat} {g : Nat → Int32} {v : Int32} (i : Nat) (hd : decode code pc = .ok (.baload, 1)) (hp : pc + 1 = pc') (A : Ari Z h a .boolean n g) (hi : j.toInt = (i : Int)) (hl : i < n) (hv : g i = v) (hr : WP C Z code ml own rt nm R n0 Q cl sl h pc' Ls (.int v :: st)) : WP C Z code ml own rt nm R n0 Q cl sl h pc Ls (.int j :: .ref a :: st) := WP.baloadZ i hd hp A hi hl (congrArg Value.int hv) hr
theorem WP.caloadI {a : Addr} {j : Int32} {n : Nat} {g : Nat → Int32} {v : Int32} (i : Nat) (hd : decode code pc = .ok (.caload, 1)) (hp : pc + 1 = pc') (A : Ari Z h a .char n g) (hi : j.toInt = (i : Int)) (hl : i < n) (hv : g i = v) (hr : WP C Z code ml own rt nm R n0 Q cl sl h pc' Ls (.int v :: st)) : WP C Z code ml own rt nm R n0 Q cl sl h pc Ls (.int j :: .ref a :: st) := WP.caload i hd hp A hi hl (congrArg Value.int hv) hr
theorem WP.ialoadI {a : Addr} {j : Int32} {n : Nat} {g : Nat → Int32} {v : Int32} (i : Nat) (hd : decode code pc = .ok (.iaload, 1)) (hp : pc + 1 = pc') (A : Ari Z h a .int n g) (hi : j.toInt = (i : Int)) (hl : i < n) (hv : g i = v) (hr : WP C Z code ml own rt nm R n0 Q cl sl h pc' Ls (.int v :: st)) : WP C Z code ml own rt nm R n0 Q cl sl h pc Ls (.int j :: .ref a :: st) := WP.iaload i hd hp A hi hl (congrArg Value.int hv) hr
theorem WP.saloadI {a : Addr} {j : Int32} {n : Nat} {g : Nat → Int32} {v : Int32} (i : Nat) (hd : decode code pc = .ok (.saload, 1)) (hp : pc + 1 = pc') (A : Ari Z h a .short n g) (hi : j.toInt = (i : Int)) (hl : i < n) (hv : g i = v) (hr : WP C Z code ml own rt nm R n0 Q cl sl h pc' Ls (.int v :: st)) : WP C Z code ml own rt nm R n0 Q cl sl h pc Ls (.int j :: .ref a :: st) := WP.saload i hd hp A hi hl (congrArg Value.int hv) hr
theorem WP.bastoreI {a : Addr} {j x x' : Int32} {n : Nat} {g : Nat → Int32} (i : Nat) (hd : decode code pc = .ok (.bastore, 1)) (hp : pc + 1 = pc') (A : Ari Z h a .byte n g) (hi : j.toInt = (i : Int)) (hl : i < n) (ge : n0 ≤ a) (hx : nar .byte x = x') (hr : ∀ h', Keep h h' [a] → Ari Z h' a .byte n (updI g i x') → WP C Z code ml own rt nm R n0 Q cl sl h' pc' Ls st) : WP C Z code ml own rt nm R n0 Q cl sl h pc Ls (.int x :: .int j :: .ref a :: st) := by
  subst hx
  exact WP.bastore i hd hp A hi hl ge fun h' K A' => hr h' K (by unfold Ari; rw [← upd_if]; exact A')
theorem WP.castoreI {a : Addr} {j x x' : Int32} {n : Nat} {g : Nat → Int32} (i : Nat) (hd : decode code pc = .ok (.castore, 1)) (hp : pc + 1 = pc') (A : Ari Z h a .char n g) (hi : j.toInt = (i : Int)) (hl : i < n) (ge : n0 ≤ a) (hx : nar .char x = x') (hr : ∀ h', Keep h h' [a] → Ari Z h' a .char n (updI g i x') → WP C Z code ml own rt nm R n0 Q cl sl h' pc' Ls st) : WP C Z code ml own rt nm R n0 Q cl sl h pc Ls (.int x :: .int j :: .ref a :: st) := by
  subst hx
  exact WP.castore i hd hp A hi hl ge fun h' K A' => hr h' K (by unfold Ari; rw [← upd_if]; exact A')
theorem WP.iastoreI {a : Addr} {j x x' : Int32} {n : Nat} {g : Nat → Int32} (i : Nat) (hd : decode code pc = .ok (.iastore, 1)) (hp : pc + 1 = pc') (A : Ari Z h a .int n g) (hi : j.toInt = (i : Int)) (hl : i < n) (ge : n0 ≤ a) (hx : x = x') (hr : ∀ h', Keep h h' [a] → Ari Z h' a .int n (updI g i x') → WP C Z code ml own rt nm R n0 Q cl sl h' pc' Ls st) : WP C Z code ml own rt nm R n0 Q cl sl h pc Ls (.int x :: .int j :: .ref a :: st) := by
  subst hx
  exact WP.iastore i hd hp A hi hl ge fun h' K A' => hr h' K (by unfold Ari; rw [← upd_if]; exact A')
theorem WP.newPI {aty : ArrayType} {ty : FieldType} {z : Int32} {n cap : Nat} {cl' sl' : Nat} (hd : decode code pc = .ok (.newarray aty, 2)) (hp : pc + 2 = pc') (hty : newarray.typeOf aty = ty) (hdv : defaultValue ty = .int 0) (w : (Jvm.Cond.arrayClass ty).before a0 Z = true) (hz : z.toInt = (n : Int)) (hcap : n ≤ cap) (hbig : cap * 8 ≤ 536870912) (hc : cl + 1 = cl') (hs : sl + cap = sl') (hc' : cl' ≤ R.cells) (hs' : sl' ≤ R.slots)
    (hr : ∀ h' a, a = h.size → Ext h h' → Ari Z h' a ty n (fun _ => 0) → WP C Z code ml own rt nm R n0 Q cl' sl' h' pc' Ls (.ref a :: st)) : WP C Z code ml own rt nm R n0 Q cl sl h pc Ls (.int z :: st) := by
  subst hty
  exact WP.newP hd hp w hz hcap hbig hc hs hc' hs' fun h' a e E A => hr h' a e E (by rw [hdv] at A; exact A)
theorem WP.arraylengthI {a : Addr} {n : Nat} {g : Nat → Int32} {ty : FieldType} {z : Int32} (hd : decode code pc = .ok (.arraylength, 1)) (hp : pc + 1 = pc') (A : Ari Z h a ty n g) (hz : n.toInt32 = z) (hr : WP C Z code ml own rt nm R n0 Q cl sl h pc' Ls (.int z :: st)) : WP C Z code ml own rt nm R n0 Q cl sl h pc Ls (.ref a :: st) := WP.arraylength hd hp A hz hr
/-- the array's class is that of arrays of C -/
def Ocl (Z : State) (h : Heap) (a : Addr) (K : String) : Prop := ∃ c : Cell, h[a]? = some c ∧ Ovr Z c.cls K
theorem Ocl.ext {h' : Heap} {a : Addr} {K : String} (O : Ocl Z h a K) (E : Ext h h') : Ocl Z h' a K := by obtain ⟨c, h1, h2⟩ := O; exact ⟨c, E.2 _ _ h1, h2⟩
theorem Ocl.keep {h' : Heap} {ws : List Addr} {a : Addr} {K : String} (O : Ocl Z h a K) (E : Keep h h' ws) : Ocl Z h' a K := by
  obtain ⟨c, h1, h2⟩ := O
  obtain ⟨c', q1, q2, -⟩ := E.2.2 _ _ h1
  exact ⟨c', q1, by rw [q2]; exact h2⟩
theorem Ocl.sto {a y : Addr} {K : String} {ty : FieldType} {n : Nat} {f : Nat → Value} (O : Ocl Z h a K) (A : Arf Z h a ty n f) (I : Ins Z h y K true) : Sto Z h a (.ref y) := by
  obtain ⟨c, h1, h2⟩ := O
  obtain ⟨c', A, -⟩ := A
  cases h1.symm.trans A.1
  exact Sto.of A h2 I
def updV (g : Nat → Value) (i : Nat) (x : Value) : Nat → Value := fun k => if k = i then x else g k
theorem WP.newR {i n cap : Nat} {K : String} {z : Int32} {cl' sl' : Nat} (hd : decode code pc = .ok (.anewarray i, 3)) (hp : pc + 3 = pc') (w1 : (Jvm.Cond.classLink own i K).before a0 Z = true) (w2 : (Jvm.Cond.arrayOver (.object K)).before a0 Z = true) (hz : z.toInt = (n : Int)) (hcap : n ≤ cap) (hbig : cap * 8 ≤ 536870912) (hc : cl + 1 = cl') (hs : sl + cap = sl') (hc' : cl' ≤ R.cells) (hs' : sl' ≤ R.slots)
    (hr : ∀ h' a, a = h.size → Ext h h' → Arf Z h' a (.object K) n (fun _ => .null) → Ocl Z h' a K → WP C Z code ml own rt nm R n0 Q cl' sl' h' pc' Ls (.ref a :: st)) : WP C Z code ml own rt nm R n0 Q cl sl h pc Ls (.int z :: st) := by
  subst hp hc hs
  have e0 : (0 : Int32).toInt = 0 := rfl
  have hzn : z.toNatClampNeg = n := by simp only [Int32.toNatClampNeg, hz]; omega
  have hzl : n < 2147483648 := by have := z.toInt_lt; omega
  intro k1 k2 k3 k4 k5 k6 k7 k8 T locs X e N
  obtain ⟨T', h', cA, X', e', E', A', O', k⟩ := RoadKit.newR X k1 k5 k4 w1 w2 e (g := mkF _ pc Ls (.int z :: st)) rfl (hb k2 hd) rfl (by rw [Int32.lt_iff_toInt_lt, hz, e0]; omega) (cap := cap) (by rw [hzn]; exact hcap) hbig hc' hs'
  obtain ⟨s₂, v', L', h1, h2⟩ := hr h' _ rfl E' ⟨_, A', by rw [sz_new, hzn], hzl, fun i hi => by simp [newA, hzn, hi, defaultValue], fun i _ => rfl⟩ ⟨_, A'.1, O'⟩ k1 k2 k3 k4 k5 k6 k7 k8 T' _ X' e' N
  exact ⟨s₂, v', L', k _ h1, h2⟩
theorem WP.aastore {a : Addr} {j : Int32} {x : Value} {n : Nat} {f : Nat → Value} {ty : FieldType} (i : Nat) (hd : decode code pc = .ok (.aastore, 1)) (hp : pc + 1 = pc') (A : Arf Z h a ty n f) (hty : ty.isReference = true) (F : Sto Z h a x) (hf : fits ty x = true) (hi : j.toInt = (i : Int)) (hl : i < n) (ge : n0 ≤ a) (hr : ∀ h', Keep h h' [a] → Arf Z h' a ty n (updV f i x) → WP C Z code ml own rt nm R n0 Q cl sl h' pc' Ls st) : WP C Z code ml own rt nm R n0 Q cl sl h pc Ls (x :: .int j :: .ref a :: st) := by
  subst hp
  obtain ⟨c, A, r1, r2, r3, r4⟩ := A
  obtain ⟨q1, q2⟩ := idxN hi hl
  intro k1 k2 k3 k4 k5 k6 k7 k8 T locs X e N
  obtain ⟨T', h', X', e', W', k⟩ := stR X k1 k5 e A (j := j) (by rw [r1]; exact q1) hty F (g := mkF _ pc Ls (x :: .int j :: .ref a :: st)) rfl rfl (hb k2 hd)
  obtain ⟨s₂, v', L', h1, h2⟩ := hr h' (Keep.of_wr W') (Arf.set A r1 r2 r3 r4 hf W' q2 hl) k1 k2 k3 k4 k5 k6 k7 k8 T' _ X' e' (Fr.snoc X' N ge)
  exact ⟨s₂, v', L', k _ h1, h2⟩
theorem getD_range {f : Nat → Int32} {m n : Nat} (h : m < n) : ((List.range n).map fun i => Value.int (f i)).getD m (.int 0) = .int (f m) := by
  simp [List.getD_eq_getElem?_getD, h]
theorem Ari.arv {a : Addr} {ty : FieldType} {n : Nat} {g : Nat → Int32} (A : Ari Z h a ty n g) : ∃ (k : ClassId) (z : Int32), z.toNatClampNeg = n ∧ Arv Z h a k ty z ((List.range n).map fun i => Value.int (g i)) (.int 0) := by
  obtain ⟨c, A, r1, r2, r3, r4⟩ := A
  have e1 : n.toInt32.toInt = (n : Int) := len_toInt r2
  have e0 : (0 : Int32).toInt = 0 := rfl
  have e2 : n.toInt32.toNatClampNeg = n := by simp only [Int32.toNatClampNeg, e1]; omega
  refine ⟨c.cls, n.toInt32, e2, c, A, rfl, by rw [e2]; exact r1, by rw [Int32.lt_iff_toInt_lt, e1, e0]; omega, fun i hi => ?_, fun i hi => ?_⟩
  · rw [r1] at hi; rw [getD_range hi]; exact r3 i hi
  · rw [r1] at hi; rw [getD_range hi]; exact r4 i hi
/-- n elements of f from sp on, laid into g from dp on -/
def blit (f g : Nat → Int32) (sp dp n : Nat) : Nat → Int32 := fun k => if dp ≤ k ∧ k < dp + n then f (sp + (k - dp)) else g k
theorem WP.arraycopy {i : Nat} {a b : Addr} {ty : FieldType} {na nb sp dp nn wd : Nat} {zs zd zn : Int32} {f g : Nat → Int32} (hd : decode code pc = .ok (.invokestatic i, 3)) (hp : pc + 3 = pc') (w1 : (Jvm.Cond.methodLink own i Jvm.Stand.acN).before a0 Z = true) (w2 : (Jvm.Cond.native Jvm.Stand.acN).before a0 Z = true) (w3 : (Jvm.Cond.static Jvm.Stand.acN).before a0 Z = true) (w4 : (Jvm.Cond.initialized "java/lang/System").before a0 Z = true) (A : Ari Z h a ty na f) (B : Ari Z h b ty nb g) (hty : refKind ty = false) (hs1 : zs.toInt = (sp : Int)) (hd1 : zd.toInt = (dp : Int)) (hn1 : zn.toInt = (nn : Int)) (h4 : sp + nn ≤ na) (h5 : dp + nn ≤ nb) (ge : n0 ≤ b) (hml : Ls.size = ml) (hf : 1 ≤ R.frames) (hw : (st.map fun v => v.category).sum ≤ wd) (hlo : wd + (nativeFrameWords "java/lang/System" "arraycopy" 5 + 11) ≤ R.locals)
    (hr : ∀ h', Keep h h' [b] → Ari Z h' b ty nb (blit f g sp dp nn) → WP C Z code ml own rt nm R n0 Q cl sl h' pc' Ls st) : WP C Z code ml own rt nm R n0 Q cl sl h pc Ls (.int zn :: .int zd :: .ref b :: .int zs :: .ref a :: st) := by
  subst hp
  obtain ⟨ka, za, ea, A'⟩ := A.arv
  obtain ⟨kb, zb, eb, B'⟩ := B.arv
  have hsm := B.small
  have e0 : (0 : Int32).toInt = 0 := rfl
  have q1 : zs.toNatClampNeg = sp := by simp only [Int32.toNatClampNeg, hs1]; omega
  have q2 : zd.toNatClampNeg = dp := by simp only [Int32.toNatClampNeg, hd1]; omega
  have q3 : zn.toNatClampNeg = nn := by simp only [Int32.toNatClampNeg, hn1]; omega
  intro k1 k2 k3 k4 k5 k6 k7 k8 T locs X e N
  obtain ⟨T', h', L', X', e', N', K', V', k⟩ := cpA X k1 k5 k4 w1 w2 w3 w4 e (sp := zs) (dp := zd) (nn := zn) A' B' (Or.inl ⟨rfl, hty⟩) (by rw [Int32.lt_iff_toInt_lt, hs1, e0]; omega) (by rw [Int32.lt_iff_toInt_lt, hd1, e0]; omega) (by rw [Int32.lt_iff_toInt_lt, hn1, e0]; omega) (by rw [q1, q3, ea]; exact h4) (by rw [q2, q3, eb]; exact h5) rfl (by rw [q2, q3, List.length_map, List.length_range]; exact h5) N ge (g := mkF _ pc Ls (.int zn :: .int zd :: .ref b :: .int zs :: .ref a :: st)) rfl (by rw [k3]; exact hml) rfl (hb k2 hd) hf (W := wd) (by show 2 * 0 + _ ≤ _; omega) hlo
  rw [q1, q2, q3] at V'
  have VV : Ari Z h' b ty nb (blit f g sp dp nn) := by
    obtain ⟨c, A, r1, r2, r3, H, G⟩ := V'
    rw [eb] at r2
    have key : ∀ i, i < nb → (((List.range nb).map fun i => Value.int (g i)).take dp ++ (List.range nn).map (fun i => ((List.range na).map fun i => Value.int (f i)).getD (sp + i) (.int 0)) ++ ((List.range nb).map fun i => Value.int (g i)).drop (dp + nn)).getD i (.int 0) = .int (blit f g sp dp nn i) := by
      intro i hi
      simp only [List.getD_eq_getElem?_getD, blit]
      by_cases c1 : i < dp
      · rw [List.append_assoc, List.getElem?_append_left (by simp; omega), if_neg (by omega)]; simp [List.getElem?_take, c1, hi]
      · by_cases c2 : i < dp + nn
        · rw [List.getElem?_append_left (by simp; omega), List.getElem?_append_right (by simp; omega), if_pos (by omega)]
          have z1 : min dp nb = dp := by omega
          have z2 : i - dp < nn := by omega
          have z3 : sp + (i - dp) < na := by omega
          simp [z1, z2, z3]
        · rw [List.getElem?_append_right (by simp; omega), if_neg (by omega)]
          have z1 : min dp nb = dp := by omega
          have z2 : dp + nn + (i - (dp + nn)) = i := by omega
          simp [z1, z2, hi]
    exact ⟨c, A, r2, hsm, fun i hi => by rw [H i (by rw [r2]; exact hi), key i hi], fun i hi => by have := G i (by rw [r2]; exact hi); rw [key i hi] at this; exact this⟩
  obtain ⟨s₂, v', L2, h1, h2⟩ := hr h' K' VV k1 k2 k3 k4 k5 k6 k7 k8 T' _ X' e' N'
  exact ⟨s₂, v', L2, k _ h1, h2⟩
theorem WP.initO {i : Nat} {a : Addr} {wd : Nat} (hd : decode code pc = .ok (.invokespecial i, 3)) (hp : pc + 3 = pc') (w1 : (Jvm.Cond.methodLink own i Lib.objectInit).before a0 Z = true) (w2 : (Jvm.Cond.instanceMethod Lib.objectInit).before a0 Z = true) (w3 : (Jvm.Cond.code Lib.objectInit ⟨#[0xb1]⟩ 1 none).before a0 Z = true) (hml : Ls.size = ml) (hf : 1 ≤ R.frames) (hw : (st.map fun v => v.category).sum ≤ wd) (hl : wd + 12 ≤ R.locals) (hr : WP C Z code ml own rt nm R n0 Q cl sl h pc' Ls st) : WP C Z code ml own rt nm R n0 Q cl sl h pc Ls (.ref a :: st) := by
  subst hp
  refine hr.step fun X hx hby hml' hown hZ hnm eT N => ?_
  obtain ⟨T', X', e', k⟩ := RoadKit.initO X hx hZ hown w1 w2 w3 eT (g := mkF _ pc Ls (.ref a :: st)) rfl (by rw [hml']; exact hml) rfl (hb hby hd) hf (W := wd) (by show 2 * 0 + _ ≤ _; omega) hl
  exact ⟨T', _, X', e', N, fun t q => k t q⟩
theorem WP.callS {i : Nat} {y : MethodName} {code' : ByteArray} {ml' wd cl' sl' : Nat} {rt' : Option FieldType} {R' : Room} {Q' : Option Value → Heap → Prop} {argsL rest : List Value} {ps : List FieldType} {rr : Option FieldType} (hd : decode code pc = .ok (.invokestatic i, 3)) (hp : pc + 3 = pc') (w1 : (Jvm.Cond.methodLink own i y).before a0 Z = true) (w2 : (Jvm.Cond.static y).before a0 Z = true) (w3 : (Jvm.Cond.initialized y.cls).before a0 Z = true) (w4 : (Jvm.Cond.code y code' ml' rt').before a0 Z = true) (hy : y.cls ≠ "java/lang/invoke/MethodHandle" ∧ y.cls ≠ "java/lang/invoke/VarHandle") (hM : ∀ l, Does l Z y code' ml' rt' R' n0 argsL.toArray h Q') (hpd : parseMethodDescriptor y.desc = some ⟨ps, rr⟩) (hlen : argsL.length = ps.length) (hst : st = argsL.reverse ++ rest) (hml : Ls.size = ml) (hw : (rest.map fun v => v.category).sum ≤ wd) (hrm : R'.frames + 1 ≤ R.frames) (hlo : wd + (ml' + 11) + R'.locals ≤ R.locals) (hc : cl + R'.cells = cl') (hs : sl + R'.slots = sl') (hc' : cl' ≤ R.cells) (hs' : sl' ≤ R.slots)
    (hr : ∀ v h', Q' v h' → WP C Z code ml own rt nm R n0 Q cl' sl' h' pc' Ls (v.toList ++ rest)) : WP C Z code ml own rt nm R n0 Q cl sl h pc Ls st := by
  subst hp hc hs
  intro k1 k2 k3 k4 k5 k6 k7 k8 T locs X e N
  obtain ⟨v, _, ⟨T', L', c', n'⟩, -, X', ⟨Lc, hQ, l1, y1, z1⟩, k⟩ := Jvm.LawKit.callS X k1 (y := y) k4 (mvT k5 w1) (mvT k5 w2) (mvT k5 w3) (mvT k5 w4) hy (backOf (W := wd) (Q := fun v h L => Q' v h ∧ Fr n0 L) (hM _ []) k5 w4 w3 hrm hlo) (g := mkF _ pc Ls st) rfl (by rw [k3]; exact hml) (argsL := argsL) (rest := rest) (lenOf hpd hlen) hst (by show 2 * 0 + _ ≤ _; omega) (hb k2 hd) (fun _ _ => ⟨rfl, e, hc', hs'⟩)
  dsimp only [Pt.U, Pt.locs, Pt.cells, Pt.slots] at X' l1 y1 z1 k hQ
  subst l1 y1 z1
  obtain ⟨s₂, v', L2, h1, h2⟩ := hr v _ hQ.1 k1 k2 k3 k4 k5 k6 k7 k8 T' _ X' rfl (Fr.app N hQ.2)
  exact ⟨s₂, v', L2, k _ h1, h2⟩
theorem WP.callI {a : Addr} {i : Nat} {y : MethodName} {code' : ByteArray} {ml' wd cl' sl' : Nat} {R' : Room} {Q' : Option Value → Heap → Prop} {argsL rest : List Value} {ps : List FieldType} {rr : Option FieldType} (hd : decode code pc = .ok (.invokespecial i, 3)) (hp : pc + 3 = pc') (hy1 : y.name = "<init>") (w1 : (Jvm.Cond.methodLink own i y).before a0 Z = true) (w2 : (Jvm.Cond.instanceMethod y).before a0 Z = true) (w3 : (Jvm.Cond.initialized y.cls).before a0 Z = true) (w4 : (Jvm.Cond.code y code' ml' none).before a0 Z = true) (hy : y.cls ≠ "java/lang/invoke/MethodHandle" ∧ y.cls ≠ "java/lang/invoke/VarHandle") (hM : ∀ l, Does l Z y code' ml' none R' n0 (.ref a :: argsL).toArray h Q') (hpd : parseMethodDescriptor y.desc = some ⟨ps, rr⟩) (hlen : argsL.length = ps.length) (hst : st = argsL.reverse ++ .ref a :: rest) (hml : Ls.size = ml) (hw : (rest.map fun v => v.category).sum ≤ wd) (hrm : R'.frames + 1 ≤ R.frames) (hlo : wd + (ml' + 11) + R'.locals ≤ R.locals) (hc : cl + R'.cells = cl') (hs : sl + R'.slots = sl') (hc' : cl' ≤ R.cells) (hs' : sl' ≤ R.slots)
    (hr : ∀ v h', Q' v h' → WP C Z code ml own rt nm R n0 Q cl' sl' h' pc' Ls (v.toList ++ rest)) : WP C Z code ml own rt nm R n0 Q cl sl h pc Ls st := by
  subst hp hc hs
  intro k1 k2 k3 k4 k5 k6 k7 k8 T locs X e N
  obtain ⟨v, _, ⟨T', L', c', n'⟩, -, X', ⟨Lc, hQ, l1, y1, z1⟩, k⟩ := X.specialBack k1 (y := y) hy1 k4 (mvT k5 w1) (mvT k5 w2) (mvT k5 w4) hy (backOf (W := wd) (Q := fun v h L => Q' v h ∧ Fr n0 L) (hM _ []) k5 w4 w3 hrm hlo) (g := mkF _ pc Ls st) rfl (by rw [k3]; exact hml) (Steps.refl _) (a := a) (argsL := argsL) (rest := rest) (lenOf hpd hlen) hst (by show 2 * 0 + _ ≤ _; omega) (hb k2 hd) (fun _ _ => ⟨rfl, e, hc', hs'⟩)
  dsimp only [Pt.U, Pt.locs, Pt.cells, Pt.slots] at X' l1 y1 z1 k hQ
  subst l1 y1 z1
  obtain ⟨s₂, v', L2, h1, h2⟩ := hr v _ hQ.1 k1 k2 k3 k4 k5 k6 k7 k8 T' _ X' rfl (Fr.app N hQ.2)
  exact ⟨s₂, v', L2, k.trans h1, h2⟩
theorem WP.callV {a : Addr} {z : MethodName} {K : String} {i : Nat} {y : MethodName} {code' : ByteArray} {ml' wd cl' sl' : Nat} {rt' : Option FieldType} {R' : Room} {Q' : Option Value → Heap → Prop} {argsL rest : List Value} {ps : List FieldType} {rr : Option FieldType} (hd : decode code pc = .ok (.invokevirtual i, 3)) (hp : pc + 3 = pc') (w1 : (Jvm.Cond.methodLink own i y).before a0 Z = true) (wd1 : (Jvm.Cond.declares y).before a0 Z = true) (hnf : ∀ s : State, Z.Warmed39 s.vm → NotFace s y) (ws : (Jvm.Cond.selects K y z).before a0 Z = true) (w2 : (Jvm.Cond.instanceMethod z).before a0 Z = true) (w3 : (Jvm.Cond.initialized z.cls).before a0 Z = true) (w4 : (Jvm.Cond.code z code' ml' rt').before a0 Z = true) (hy : y.cls ≠ "java/lang/invoke/MethodHandle" ∧ y.cls ≠ "java/lang/invoke/VarHandle") (E : Exa Z h a K) (hM : ∀ l, Does l Z z code' ml' rt' R' n0 (.ref a :: argsL).toArray h Q') (hpd : parseMethodDescriptor y.desc = some ⟨ps, rr⟩) (hlen : argsL.length = ps.length) (hst : st = argsL.reverse ++ .ref a :: rest) (hml : Ls.size = ml) (hw : (rest.map fun v => v.category).sum ≤ wd) (hrm : R'.frames + 1 ≤ R.frames) (hlo : wd + (ml' + 11) + R'.locals ≤ R.locals) (hc : cl + R'.cells = cl') (hs : sl + R'.slots = sl') (hc' : cl' ≤ R.cells) (hs' : sl' ≤ R.slots)
    (hr : ∀ v h', Q' v h' → WP C Z code ml own rt nm R n0 Q cl' sl' h' pc' Ls (v.toList ++ rest)) : WP C Z code ml own rt nm R n0 Q cl sl h pc Ls st := by
  subst hp hc hs
  intro k1 k2 k3 k4 k5 k6 k7 k8 T locs X e N
  obtain ⟨cq, kq, q1, q2, q3⟩ := isOf k5 e E
  obtain ⟨v, _, ⟨T', L', c', n'⟩, -, X', ⟨Lc, hQ, l1, y1, z1⟩, k⟩ := X.virtualBack k1 (y := y) (z := z) k4 (mvT k5 w1) (mvT k5 wd1) (hnf _ k5) (mvT k5 ws) (mvT k5 w2) hy (backOf (W := wd) (Q := fun v h L => Q' v h ∧ Fr n0 L) (hM _ []) k5 w4 w3 hrm hlo) q1 q3 (g := mkF _ pc Ls st) rfl (by rw [k3]; exact hml) (Steps.refl _) (argsL := argsL) (rest := rest) (lenOf hpd hlen) hst (by show 2 * 0 + _ ≤ _; omega) (hb k2 hd) (fun _ _ => ⟨rfl, e, hc', hs'⟩)
  dsimp only [Pt.U, Pt.locs, Pt.cells, Pt.slots] at X' l1 y1 z1 k hQ
  subst l1 y1 z1
  obtain ⟨s₂, v', L2, h1, h2⟩ := hr v _ hQ.1 k1 k2 k3 k4 k5 k6 k7 k8 T' _ X' rfl (Fr.app N hQ.2)
  exact ⟨s₂, v', L2, k.trans h1, h2⟩
theorem nfS {y z : MethodName} {K : String} (ws : (Jvm.Cond.selects K y z).before a0 Z = true) (e : y = z) : ∀ s : State, Z.Warmed39 s.vm → NotFace s y := by subst e; exact fun s k => notFace_of_selects (args := #[]) (mvT k ws)
theorem WP.callP {a : Addr} {K : String} {i : Nat} {y : MethodName} {code' : ByteArray} {ml' wd cl' sl' : Nat} {rt' : Option FieldType} {R' : Room} {Q' : Option Value → Heap → Prop} {argsL rest : List Value} {ps : List FieldType} {rr : Option FieldType} (hd : decode code pc = .ok (.invokevirtual i, 3)) (hp : pc + 3 = pc') (w1 : (Jvm.Cond.methodLink own i y).before a0 Z = true) (w2 : (Jvm.Cond.instanceMethod y).before a0 Z = true) (ws : (Jvm.Cond.selects y.cls y y).before a0 Z = true) (wp : (Jvm.Cond.privateMethod y).before a0 Z = true) (w3 : (Jvm.Cond.initialized y.cls).before a0 Z = true) (w4 : (Jvm.Cond.code y code' ml' rt').before a0 Z = true) (hy : y.cls ≠ "java/lang/invoke/MethodHandle" ∧ y.cls ≠ "java/lang/invoke/VarHandle") (E : Exa Z h a K) (hM : ∀ l, Does l Z y code' ml' rt' R' n0 (.ref a :: argsL).toArray h Q') (hpd : parseMethodDescriptor y.desc = some ⟨ps, rr⟩) (hlen : argsL.length = ps.length) (hst : st = argsL.reverse ++ .ref a :: rest) (hml : Ls.size = ml) (hw : (rest.map fun v => v.category).sum ≤ wd) (hrm : R'.frames + 1 ≤ R.frames) (hlo : wd + (ml' + 11) + R'.locals ≤ R.locals) (hc : cl + R'.cells = cl') (hs : sl + R'.slots = sl') (hc' : cl' ≤ R.cells) (hs' : sl' ≤ R.slots)
    (hr : ∀ v h', Q' v h' → WP C Z code ml own rt nm R n0 Q cl' sl' h' pc' Ls (v.toList ++ rest)) : WP C Z code ml own rt nm R n0 Q cl sl h pc Ls st := by
  subst hp hc hs
  intro k1 k2 k3 k4 k5 k6 k7 k8 T locs X e N
  obtain ⟨cq, q1, q2⟩ := E.cell
  obtain ⟨v, _, ⟨T', L', c', n'⟩, -, X', ⟨Lc, hQ, l1, y1, z1⟩, k⟩ := X.privateBack k1 (y := y) k4 (mvT k5 w1) (mvT k5 w2) (mvT k5 ws) (Cond.privateMethod_at (mvP k5 wp (args := #[]))) (mvT k5 w4) hy (backOf (W := wd) (Q := fun v h L => Q' v h ∧ Fr n0 L) (hM _ []) k5 w4 w3 hrm hlo) (g := mkF _ pc Ls st) rfl (by rw [k3]; exact hml) (Steps.refl _) (a := a) (by rw [e]; exact q1) q2 (argsL := argsL) (rest := rest) (lenOf hpd hlen) hst (by show 2 * 0 + _ ≤ _; omega) (hb k2 hd) (fun _ _ => ⟨rfl, e, hc', hs'⟩)
  dsimp only [Pt.U, Pt.locs, Pt.cells, Pt.slots] at X' l1 y1 z1 k hQ
  subst l1 y1 z1
  obtain ⟨s₂, v', L2, h1, h2⟩ := hr v _ hQ.1 k1 k2 k3 k4 k5 k6 k7 k8 T' _ X' rfl (Fr.app N hQ.2)
  exact ⟨s₂, v', L2, k.trans h1, h2⟩
theorem WP.iret {z : Int32} (hd : decode code pc = .ok (.ireturn, 1)) (hrt : rt = some .int) (hc : cl ≤ R.cells) (hs : sl ≤ R.slots) (hq : Q (some (.int z)) h) : WP C Z code ml own rt nm R n0 Q cl sl h pc Ls (.int z :: st) := by
  intro k1 k2 k3 k4 k5 k6 k7 k8 T locs X e N
  obtain ⟨fs, hr', hrun, hended, hW, hsame⟩ := X.leave (v := some (.int z)) (fun q => by rw [k6, hrt] at q; cases q) k7
  exact ⟨_, _, _, retOut X k1 (t := .int) (k6.trans hrt) rfl (Or.inl ⟨rfl, Or.inl rfl, _, rfl⟩) (hb k2 hd) hr', hrun, hended, by show Q _ T.heap; rw [e]; exact hq, N, ⟨_, rfl⟩, hW, hsame.mono hc hs⟩
theorem WP.lret {z : Int64} (hd : decode code pc = .ok (.lreturn, 1)) (hrt : rt = some .long) (hc : cl ≤ R.cells) (hs : sl ≤ R.slots) (hq : Q (some (.long z)) h) : WP C Z code ml own rt nm R n0 Q cl sl h pc Ls (.long z :: st) := by
  intro k1 k2 k3 k4 k5 k6 k7 k8 T locs X e N
  obtain ⟨fs, hr', hrun, hended, hW, hsame⟩ := X.leave (v := some (.long z)) (fun q => by rw [k6, hrt] at q; cases q) k7
  exact ⟨_, _, _, retOut X k1 (t := .long) (k6.trans hrt) rfl (Or.inr (Or.inl ⟨rfl, rfl, _, rfl⟩)) (hb k2 hd) hr', hrun, hended, by show Q _ T.heap; rw [e]; exact hq, N, ⟨_, rfl⟩, hW, hsame.mono hc hs⟩
theorem WP.dret {z : UInt64} (hd : decode code pc = .ok (.dreturn, 1)) (hrt : rt = some .double) (hc : cl ≤ R.cells) (hs : sl ≤ R.slots) (hq : Q (some (.double z)) h) : WP C Z code ml own rt nm R n0 Q cl sl h pc Ls (.double z :: st) := by
  intro k1 k2 k3 k4 k5 k6 k7 k8 T locs X e N
  obtain ⟨fs, hr', hrun, hended, hW, hsame⟩ := X.leave (v := some (.double z)) (fun q => by rw [k6, hrt] at q; cases q) k7
  exact ⟨_, _, _, retOut X k1 (t := .double) (k6.trans hrt) rfl (Or.inr (Or.inr (Or.inl ⟨rfl, rfl, _, rfl⟩))) (hb k2 hd) hr', hrun, hended, by show Q _ T.heap; rw [e]; exact hq, N, ⟨_, rfl⟩, hW, hsame.mono hc hs⟩
theorem WP.aret {z : Value} (hd : decode code pc = .ok (.areturn, 1)) {t : FieldType} (hrt : rt = some t) (ht : t.isReference = true) (hv : z.isRef = true) (hc : cl ≤ R.cells) (hs : sl ≤ R.slots) (hq : Q (some z) h) : WP C Z code ml own rt nm R n0 Q cl sl h pc Ls (z :: st) := by
  intro k1 k2 k3 k4 k5 k6 k7 k8 T locs X e N
  obtain ⟨fs, hr', hrun, hended, hW, hsame⟩ := X.leave (v := some z) (fun q => by rw [k6, hrt] at q; cases q) k7
  exact ⟨_, _, _, retOut X k1 (t := t) (k6.trans hrt) (by cases t <;> first | (cases ht; done) | rfl) (Or.inr (Or.inr (Or.inr (Or.inr ⟨rfl, ht, hv⟩)))) (hb k2 hd) hr', hrun, hended, by show Q _ T.heap; rw [e]; exact hq, N, ⟨_, rfl⟩, hW, hsame.mono hc hs⟩
theorem WP.nret {z : Int32} (hd : decode code pc = .ok (.ireturn, 1)) {t : FieldType} {z' : Int32} (hrt : rt = some t) (ht : t = .boolean ∨ t = .byte ∨ t = .char ∨ t = .short) (hz : nar t z = z') (hc : cl ≤ R.cells) (hs : sl ≤ R.slots) (hq : Q (some (.int z')) h) : WP C Z code ml own rt nm R n0 Q cl sl h pc Ls (.int z :: st) := by
  intro k1 k2 k3 k4 k5 k6 k7 k8 T locs X e N
  obtain ⟨fs, hr', hrun, hended, hW, hsame⟩ := X.leave (v := some (.int z')) (fun q => by rw [k6, hrt] at q; cases q) k7
  exact ⟨_, _, _, retN X k1 (t := t) (k6.trans hrt) ht (hb k2 hd) (by rw [hz]; exact hr'), hrun, hended, by show Q _ T.heap; rw [e]; exact hq, N, ⟨_, rfl⟩, hW, hsame.mono hc hs⟩
theorem WP.vret (hd : decode code pc = .ok (.return_, 1)) (hrt : rt = none) (hc : cl ≤ R.cells) (hs : sl ≤ R.slots) (hq : Q none h) : WP C Z code ml own rt nm R n0 Q cl sl h pc Ls [] := by
  intro k1 k2 k3 k4 k5 k6 k7 k8 T locs X e N
  obtain ⟨fs, hr', hrun, hended, hW, hsame⟩ := X.leave (v := none) (fun _ => rfl) k7
  exact ⟨_, _, _, X.returnOut k1 (k6.trans hrt) (hb k2 hd) hr', hrun, hended, by show Q _ T.heap; rw [e]; exact hq, N, ⟨_, rfl⟩, hW, hsame.mono hc hs⟩
end Rules
end Jvm.WK
namespace Jvm.WK
open Jvm Sem ClassFile Op Lib Jvm.Free Jvm.Stand Jvm.LawKit Jvm.RoadKit
def b2i (b : Bool) : Int32 := if b then 1 else 0
theorem b2i_t {P : Prop} [Decidable P] (h : P) : some (Value.int 1) = some (Value.int (b2i (decide P))) := by rw [decide_eq_true h]; rfl
theorem b2i_f {P : Prop} [Decidable P] (h : ¬ P) : some (Value.int 0) = some (Value.int (b2i (decide P))) := by rw [decide_eq_false h]; rfl
theorem b2i_congr {P P' : Prop} [Decidable P] [Decidable P'] (h : P ↔ P') : b2i (decide P) = b2i (decide P') := by rw [decide_eq_decide.mpr h]
theorem b2i_1 {b : Bool} : b2i b = 1 ↔ b = true := by cases b <;> simp [b2i]
theorem b2i_0 {b : Bool} : b2i b = 0 ↔ b = false := by cases b <;> simp [b2i]
theorem b2i_one (b : Bool) : b2i b &&& 1 = b2i b := by cases b <;> rfl
theorem eqInt_v {args : Array Value} {first s : State} {o : Option Outcome} {idx : List Nat} {t : Term} {k : Int32} (h : (Jvm.Cond.eq t (.int k)).value args first o s idx = some true) : t.eval args first o idx s = some (.int k) := by
  obtain ⟨x, y, e1, e2, k1, k2⟩ := cmp_v (Or.inl h)
  have e3 : y = .int k := by simpa [Term.eval] using e2.symm
  subst e3
  obtain ⟨z, rfl⟩ := k2
  simp [Cond.value, e1, Term.eval] at h
  rw [e1, h]
theorem Sta.of_exa {args : Array Value} {s : State} {C n d K : String} (h : (Jvm.Cond.exactly (.static C n d) K).value args s none s [] = some true) (hi : (Jvm.Cond.initializedFor C n d).before args s = true ∨ ((Jvm.Cond.initialized C).before args s = true ∧ (Jvm.Cond.laysStatic C n d).before args s = true)) :
    ∃ a, (Term.static C n d).eval args s none [] s = some (.ref a) ∧ Sta s s.heap C n d (.ref a) ∧ Exa s s.heap a K := by
  obtain ⟨a, e⟩ := exa_v h
  exact ⟨a, e, Sta.start e hi, Exa.start e h⟩
theorem Fld.of_eq {args : Array Value} {s : State} {t : Term} {a : Addr} {C n d : String} {k : Int32} (e : t.eval args s none [] s = some (.ref a)) (h : (Jvm.Cond.eq (.field t C n d) (.int k)).value args s none s [] = some true) : Fld s s.heap a C n d (.int k) := by
  have q := eqInt_v h
  rw [fld_at e] at q
  exact Fld.start q
theorem Ari.of_start {s : State} {a : Addr} {c : Cell} {ty : FieldType} (hf : Fit s) (A : Arr s s.heap a c ty) (ht : ty = .int ∨ ty = .boolean ∨ ty = .byte ∨ ty = .char ∨ ty = .short) (hsz : c.slots.size < 2147483648) :
    ∃ g : Nat → Int32, Ari s s.heap a ty c.slots.size g ∧ ∀ i x, c.slots[i]? = some (.int x) → g i = x := by
  have key : ∀ i, i < c.slots.size → ∃ x, c.slots[i]? = some (.int x) ∧ fits ty (.int x) = true := by
    intro i hi
    have e1 : i.toInt32.toInt = (i : Int) := len_toInt (show i < 2 ^ 31 by omega)
    have e : i.toInt32.toNatClampNeg = i := by simp only [Int32.toNatClampNeg, e1]; omega
    obtain ⟨v, h1, h2⟩ := elem_fit (j := i.toInt32) hf A (idx_in hi (show c.slots.size < 2 ^ 31 by omega))
    obtain ⟨x, rfl⟩ := fit_I h2 ht
    rw [e] at h1
    exact ⟨x, h1, h2⟩
  refine ⟨fun i => match c.slots[i]? with | some (.int x) => x | _ => 0, ⟨c, A, rfl, hsz, fun i hi => ?_, fun i hi => ?_⟩, fun i x h => by simp only [h]⟩
  · obtain ⟨x, h1, -⟩ := key i hi; simp only [h1]
  · obtain ⟨x, h1, h2⟩ := key i hi; simp only [h1]; exact h2
theorem len_small {args : Array Value} {first s : State} {o : Option Outcome} {idx : List Nat} {t : Term} {v : Value} {a : Addr} {c : Cell} (h : (Term.length t).eval args first o idx s = some v) (ht : t.eval args first o idx s = some (.ref a)) (ha : s.arrayAt? a = some c) : c.slots.size < 2 ^ 31 := by
  simp only [Term.eval, ht, ha, Option.bind_eq_bind, Option.bind_some] at h
  split at h
  · assumption
  · cases h
/-- an array that a static holds, pinned by a case's words -/
theorem Ari.of_static {s : State} {args : Array Value} {C n d : String} {ty : FieldType} {N : Int32} {k : Nat} (hf : Fit s) (hA : (Jvm.Cond.arrayOf (.static C n d) ty).value args s none s [] = some true) (hL : (Jvm.Cond.eq (.length (.static C n d)) (.int N)).value args s none s [] = some true)
    (ht : ty = .int ∨ ty = .boolean ∨ ty = .byte ∨ ty = .char ∨ ty = .short) (hi : (Jvm.Cond.initializedFor C n d).before args s = true ∨ ((Jvm.Cond.initialized C).before args s = true ∧ (Jvm.Cond.laysStatic C n d).before args s = true)) (hN : N.toInt = (k : Int)) :
    ∃ (a : Addr) (g : Nat → Int32), Sta s s.heap C n d (.ref a) ∧ Ari s s.heap a ty k g ∧
      (∀ (j x : Int32) (i : Nat), (Jvm.Cond.eq (.elem (.static C n d) (.int j)) (.int x)).value args s none s [] = some true → j.toInt = (i : Int) → g i = x) ∧
      (∀ c : Jvm.Cond, (Jvm.Cond.all (.static C n d) c).value args s none s [] = some true → ∀ i, i < k → c.value args s none s [i] = some true) ∧
      (∀ (i : Nat) (x : Int32), i < k → (Jvm.Cond.eq (.elem (.static C n d) (.index 0)) (.int x)).value args s none s [i] = some true → g i = x) := by
  obtain ⟨a, e⟩ := arr_v hA
  obtain ⟨c, A⟩ := Arr.start e hA
  have eL := eqInt_v hL
  have hat : s.arrayAt? a = some c := A.fin (Vm.Alike.refl _)
  have hsz : c.slots.size < 2 ^ 31 := len_small eL e hat
  obtain ⟨a', c', q1, q2, q3⟩ := Term.length_spec eL
  cases e.symm.trans q1
  cases hat.symm.trans q2
  have hk : c.slots.size = k := by
    have z := congrArg Int32.toInt (Value.int.inj q3)
    rw [len_toInt hsz] at z
    omega
  obtain ⟨g, G, hg⟩ := Ari.of_start hf A ht hsz
  rw [hk] at G
  refine ⟨a, g, Sta.start e hi, G, fun j x i h hj => ?_, fun c0 h i hi => Cond.all_elim e hat h i (by omega), fun i x hi h => ?_⟩
  · obtain ⟨h1, h2⟩ := elem_in (eqInt_v h) e (show (Term.int j).eval args s none [] s = some (.int j) from rfl) A.1
    have ej : j.toNatClampNeg = i := by simp only [Int32.toNatClampNeg, hj]; omega
    rw [ej] at h2
    exact hg i x h2
  · have e2 : (Term.static C n d).eval args s none [i] s = some (.ref a) := e
    obtain ⟨h1, h2⟩ := elem_in (eqInt_v h) e2 (show (Term.index 0).eval args s none [i] s = some (.int i.toInt32) from rfl) A.1
    have e1 : i.toInt32.toInt = (i : Int) := len_toInt (show i < 2 ^ 31 by omega)
    have ej : i.toInt32.toNatClampNeg = i := by simp only [Int32.toNatClampNeg, e1]; omega
    rw [ej] at h2
    exact hg i x h2
theorem Arf.of_static {s : State} {args : Array Value} {C n d K K' : String} {N : Int32} {k : Nat} {X : Jvm.Cond} (hA : (Jvm.Cond.arrayOf (.static C n d) (.object K)).value args s none s [] = some true) (hL : (Jvm.Cond.eq (.length (.static C n d)) (.int N)).value args s none s [] = some true)
    (hi : (Jvm.Cond.initializedFor C n d).before args s = true ∨ ((Jvm.Cond.initialized C).before args s = true ∧ (Jvm.Cond.laysStatic C n d).before args s = true)) (hN : N.toInt = (k : Int)) (hall : (Jvm.Cond.all (.static C n d) (.and (.exactly (.elem (.static C n d) (.index 0)) K') X)).value args s none s [] = some true) :
    ∃ (a : Addr) (f : Nat → Value), Sta s s.heap C n d (.ref a) ∧ Arf s s.heap a (.object K) k f ∧ ∀ i, i < k → ∃ y, f i = .ref y := by
  obtain ⟨a, e⟩ := arr_v hA
  obtain ⟨c, A⟩ := Arr.start e hA
  have eL := eqInt_v hL
  have hat : s.arrayAt? a = some c := A.fin (Vm.Alike.refl _)
  have hsz : c.slots.size < 2 ^ 31 := len_small eL e hat
  obtain ⟨a', c', q1, q2, q3⟩ := Term.length_spec eL
  cases e.symm.trans q1
  cases hat.symm.trans q2
  have hk : c.slots.size = k := by
    have z := congrArg Int32.toInt (Value.int.inj q3)
    rw [len_toInt hsz] at z
    omega
  have key : ∀ i, i < k → ∃ y, c.slots[i]? = some (.ref y) := fun i hi => by
    have h1 := (and_e (Cond.all_elim e hat hall i (by omega))).1
    obtain ⟨y, hy⟩ := exa_v h1
    have e2 : (Term.static C n d).eval args s none [i] s = some (.ref a) := e
    obtain ⟨-, h2⟩ := elem_in hy e2 (show (Term.index 0).eval args s none [i] s = some (.int i.toInt32) from rfl) A.1
    have e1 : i.toInt32.toInt = (i : Int) := len_toInt (show i < 2 ^ 31 by omega)
    have ej : i.toInt32.toNatClampNeg = i := by simp only [Int32.toNatClampNeg, e1]; omega
    rw [ej] at h2
    exact ⟨y, h2⟩
  refine ⟨a, fun i => (c.slots[i]?).getD .null, Sta.start e hi, ⟨c, A, hk, by omega, fun i hi => ?_, fun i hi => ?_⟩, fun i hi => ?_⟩
  · obtain ⟨y, hy⟩ := key i hi; simp [hy]
  · obtain ⟨y, hy⟩ := key i hi; simp [hy, fits]
  · obtain ⟨y, hy⟩ := key i hi; exact ⟨y, by simp [hy]⟩
theorem nar_char (x : Int32) : nar .char (nar .char x) = nar .char x := by
  have h1 := c_i2c x
  have h2 := c_i2c (nar .char x)
  apply Int32.toInt_inj.mp
  show (nar .char x).toUInt32.toUInt16.toUInt32.toInt32.toInt = x.toUInt32.toUInt16.toUInt32.toInt32.toInt
  have e : (nar .char x).toInt = x.toUInt32.toUInt16.toUInt32.toInt32.toInt := rfl
  omega
theorem idx_lt {args : Array Value} {s : State} {i : Nat} {lo : Int32} (hi : i < 2147483648) : (Jvm.Cond.lt (.index 0) (.int lo)).value args s none s [i] = some (decide ((i : Int) < lo.toInt)) := by
  have e1 : i.toInt32.toInt = (i : Int) := len_toInt (show i < 2 ^ 31 by omega)
  rw [Cond.lt_ints (x := i.toInt32) (y := lo) rfl rfl, Option.some.injEq, decide_eq_decide, Int32.lt_iff_toInt_lt, e1]
theorem idx_le {args : Array Value} {s : State} {i : Nat} {hi : Int32} (h : i < 2147483648) : (Jvm.Cond.le (.int hi) (.index 0)).value args s none s [i] = some (decide (hi.toInt ≤ (i : Int))) := by
  have e1 : i.toInt32.toInt = (i : Int) := len_toInt (show i < 2 ^ 31 by omega)
  rw [Cond.le_ints (x := hi) (y := i.toInt32) rfl rfl, Option.some.injEq, decide_eq_decide, Int32.le_iff_toInt_le, e1]
theorem or_v {args : Array Value} {first s : State} {o : Option Outcome} {idx : List Nat} {G X : Jvm.Cond} {P : Prop} [Decidable P] (h : (Jvm.Cond.or G X).value args first o s idx = some true) (h1 : G.value args first o s idx = some (decide P)) : P ∨ X.value args first o s idx = some true := by
  by_cases p : P
  · exact Or.inl p
  · rw [Cond.or_of_right (nay h1 p)] at h; exact Or.inr h
end Jvm.WK
namespace Jvm.Pilot.@@N@@
open Jvm Jvm.ClassFile Sem Op Lib Jvm.Free Jvm.Stand Jvm.LawKit Jvm.RoadKit Bundle Jvm.WK Jvm.Pilot.@@N@@.Jvm.D
def maxI (x y : Int32) : Int32 := if x < y then y else x
def minI (x y : Int32) : Int32 := if y < x then y else x
def maxL (x y : Int64) : Int64 := if x < y then y else x
def minL (x y : Int64) : Int64 := if y < x then y else x
/-- the lines' object: its fields, its arrays (all made since the law began, all different), the line's own array; E: what 'ends' holds, 0 behind its length -/
def Rep (Z : State) (n0 : Nat) (h : Heap) (a bb sb eb ln : Addr) (us lo ct : Int32) (inc exs : Int64) (nb ne nl : Nat) (E : Nat → Int32) : Prop :=
  Old Z n0 h ∧ (Exa Z h a "com/example/tallyfold/tallyfold/EntryLines" ∧ Fld Z h a "com/example/tallyfold/tallyfold/EntryLines" "bytes" "[B" (.ref bb) ∧ Fld Z h a "com/example/tallyfold/tallyfold/EntryLines" "used" "I" (.int us) ∧ Fld Z h a "com/example/tallyfold/tallyfold/EntryLines" "starts" "[I" (.ref sb) ∧ Fld Z h a "com/example/tallyfold/tallyfold/EntryLines" "ends" "[I" (.ref eb) ∧ Fld Z h a "com/example/tallyfold/tallyfold/EntryLines" "lowest" "I" (.int lo) ∧ Fld Z h a "com/example/tallyfold/tallyfold/EntryLines" "count" "I" (.int ct) ∧ Fld Z h a "com/example/tallyfold/tallyfold/EntryLines" "income" "J" (.long inc) ∧ Fld Z h a "com/example/tallyfold/tallyfold/EntryLines" "expenses" "J" (.long exs)) ∧ ((∃ g, Ari Z h bb .byte nb g) ∧ (∃ g, Ari Z h sb .int ne g) ∧ (∃ g, Ari Z h eb .int ne g ∧ ∀ i, i < ne → g i = E i) ∧ ∃ g, Ari Z h ln .byte nl g) ∧
  (n0 ≤ a ∧ n0 ≤ bb ∧ n0 ≤ sb ∧ n0 ≤ eb) ∧ (bb ≠ sb ∧ bb ≠ eb ∧ sb ≠ eb ∧ a ≠ bb ∧ a ≠ sb ∧ a ≠ eb ∧ ln ≠ a ∧ ln ≠ bb ∧ ln ≠ sb ∧ ln ≠ eb) ∧ ∀ i, ne ≤ i → E i = 0
def Bd (S : Int) (x y : Int64) : Prop := 0 ≤ x.toInt ∧ x.toInt ≤ S ∧ 0 ≤ y.toInt ∧ y.toInt ≤ S
theorem sub0 (x : Int32) : x - 0 = x := by apply Int32.toBitVec_inj.mp; simp
theorem maxI_v (x y : Int32) : (maxI x y).toInt = max x.toInt y.toInt := by
  unfold maxI
  split <;> rename_i h <;> rw [Int32.lt_iff_toInt_lt] at h <;> omega
theorem minI_v (x y : Int32) : (minI x y).toInt = min x.toInt y.toInt := by
  unfold minI
  split <;> rename_i h <;> rw [Int32.lt_iff_toInt_lt] at h <;> omega
theorem maxL_v (x y : Int64) : (maxL x y).toInt = max x.toInt y.toInt := by
  unfold maxL
  split <;> rename_i h <;> rw [Int64.lt_iff_toInt_lt] at h <;> omega
theorem minL_v (x y : Int64) : (minL x y).toInt = min x.toInt y.toInt := by
  unfold minL
  split <;> rename_i h <;> rw [Int64.lt_iff_toInt_lt] at h <;> omega
theorem grown {x : Int32} (h0 : 0 ≤ x.toInt) (h : x.toInt ≤ 4096) : (minL 2147483631 (maxL x.toInt64 (maxL (2 * (0 : Int32).toInt64) 4096))).toInt32.toInt = ((4096 : Nat) : Int) := by
  have e1 : (2 * (0 : Int32).toInt64 : Int64).toInt = 0 := by decide
  have e2 : (4096 : Int64).toInt = 4096 := by decide
  have e3 : (2147483631 : Int64).toInt = 2147483631 := by decide
  have h1 := minL_v 2147483631 (maxL x.toInt64 (maxL (2 * (0 : Int32).toInt64) 4096))
  rw [maxL_v, maxL_v, c_i2l, e1, e2, e3] at h1
  have h2 := c_l2i (minL 2147483631 (maxL x.toInt64 (maxL (2 * (0 : Int32).toInt64) 4096)))
  have h3 := rng32 (minL 2147483631 (maxL x.toInt64 (maxL (2 * (0 : Int32).toInt64) 4096))).toInt32
  omega
theorem natI {n : Nat} (h : n < 100000) : (n : Nat).toInt32.toInt = (n : Int) := len_toInt (show n < 2 ^ 31 by omega)
theorem twice {n : Nat} (h : n < 100000) : (2 * (n : Nat).toInt32 : Int32).toInt = ((2 * n : Nat) : Int) := by
  have h1 := c_imul 2 (n : Nat).toInt32
  have h2 := rng32 (2 * (n : Nat).toInt32)
  rw [natI h, show (2 : Int32).toInt = 2 from rfl] at h1
  omega
theorem adds {a b : Int32} {m n : Nat} (ha : a.toInt = m) (hb : b.toInt = n) (h : m + n < 100000) : (a + b).toInt = ((m + n : Nat) : Int) := by
  have h1 := c_iadd a b
  have h2 := rng32 (a + b)
  omega
theorem pred {a : Int32} {m : Nat} (ha : a.toInt = m) (h : 1 ≤ m) : (a - 1).toInt = ((m - 1 : Nat) : Int) := by
  have h1 := c_isub a 1
  have h2 := rng32 (a - 1)
  have h3 := rng32 a
  have e : (1 : Int32).toInt = 1 := rfl
  omega
theorem room_ok {us pe : Int32} {U len : Nat} (hU : us.toInt = (U : Int)) (hl : pe.toInt = (len : Int)) (h1 : U ≤ 1000) (h2 : len ≤ 1000) : ¬ (2147483631 - us) < pe := by
  have c1 := c_isub 2147483631 us
  have c2 := rng32 (2147483631 - us)
  have e : (2147483631 : Int32).toInt = 2147483631 := by decide
  rw [Int32.lt_iff_toInt_lt]
  omega
theorem sum_ok {x u : Int64} {S : Int} (h1 : 0 ≤ x.toInt) (h2 : x.toInt ≤ S) (h3 : S + u.toInt ≤ 4611686018427387904) : ¬ (9223372036854775807 - x) < u := by
  have c1 := c_lsub 9223372036854775807 x
  have c2 := rng64 (9223372036854775807 - x)
  have e : (9223372036854775807 : Int64).toInt = 9223372036854775807 := by decide
  rw [Int64.lt_iff_toInt_lt]
  omega
theorem sum_bd {x y u : Int64} {S : Int} (hB : Bd S x y) (hu : 0 ≤ u.toInt) (h3 : S + u.toInt ≤ 4611686018427387904) : Bd (S + u.toInt) (x + u) y ∧ Bd (S + u.toInt) x (y + u) := by
  obtain ⟨b1, b2, b3, b4⟩ := hB
  have c1 := c_ladd x u
  have c2 := rng64 (x + u)
  have c3 := c_ladd y u
  have c4 := rng64 (y + u)
  exact ⟨⟨by omega, by omega, by omega, by omega⟩, ⟨by omega, by omega, by omega, by omega⟩⟩
theorem updI_zero {E : Nat → Int32} {i j : Nat} {x : Int32} : updI E i x j = 0 ↔ (j = i ∧ x = 0) ∨ (¬ j = i ∧ E j = 0) := by
  unfold updI; split <;> simp_all
theorem n1v (x : Int32) : 1 ≤ (1 + (x &&& 31)).toInt ∧ (1 + (x &&& 31)).toInt ≤ 32 := by
  have h1 := c_mask x 31 5 (by decide) (by decide)
  have h2 := c_iadd 1 (x &&& 31)
  have h3 := rng32 (1 + (x &&& 31))
  have e : (1 : Int32).toInt = 1 := rfl
  omega
theorem n2v {t : Int32} (x : Int32) {b : Int} (h : 1 ≤ t.toInt ∧ t.toInt ≤ b) (hb : b ≤ 1000) : t.toInt < ((t + 1) + (x &&& 31)).toInt ∧ ((t + 1) + (x &&& 31)).toInt ≤ b + 32 := by
  have h1 := c_mask x 31 5 (by decide) (by decide)
  have h2 := c_iadd t 1
  have h3 := rng32 (t + 1)
  have h4 := c_iadd (t + 1) (x &&& 31)
  have h5 := rng32 ((t + 1) + (x &&& 31))
  have e : (1 : Int32).toInt = 1 := rfl
  omega
theorem and1 (x : Int32) : 0 ≤ (x &&& 1).toInt ∧ (x &&& 1).toInt ≤ 1 := by
  have h1 := c_mask x 1 1 (by decide) (by decide)
  omega
theorem endv (x y : Int32) : 1 ≤ (1 + (x &&& 1) + (y &&& 1)).toInt ∧ (1 + (x &&& 1) + (y &&& 1)).toInt ≤ 3 := by
  have h1 := and1 x
  have h2 := and1 y
  have h3 := c_iadd 1 (x &&& 1)
  have h4 := rng32 (1 + (x &&& 1))
  have h5 := c_iadd (1 + (x &&& 1)) (y &&& 1)
  have h6 := rng32 (1 + (x &&& 1) + (y &&& 1))
  have e : (1 : Int32).toInt = 1 := rfl
  omega
theorem unv (x : Int64) : 1 ≤ ((x &&& 4294967295) + 1).toInt ∧ ((x &&& 4294967295) + 1).toInt ≤ 4294967296 := by
  have h1 := c_maskL x 4294967295 32 (by decide) (by decide)
  have h2 := c_ladd (x &&& 4294967295) 1
  have h3 := rng64 ((x &&& 4294967295) + 1)
  have e : (1 : Int64).toInt = 1 := rfl
  omega
theorem rem7 (x : Int32) : 0 ≤ ((x &&& 2147483647) % 7).toInt ∧ ((x &&& 2147483647) % 7).toInt ≤ 6 := by
  have h1 := c_mask x 2147483647 31 (by decide) (by decide)
  have h2 := c_irem (x &&& 2147483647) 7 7 rfl
  omega
theorem not7 {t : Int32} (h : 0 ≤ t.toInt ∧ t.toInt ≤ 6) (h1 : ¬ t &&& 1 = 0) (h2 : ¬ t &&& 2 = 0) (h4 : ¬ t &&& 4 = 0) : False := by
  have hc : t.toInt = 0 ∨ t.toInt = 1 ∨ t.toInt = 2 ∨ t.toInt = 3 ∨ t.toInt = 4 ∨ t.toInt = 5 ∨ t.toInt = 6 := by omega
  rcases hc with q | q | q | q | q | q | q
  · obtain rfl : t = 0 := Int32.toInt_inj.mp q; exact h1 (by decide)
  · obtain rfl : t = 1 := Int32.toInt_inj.mp q; exact h2 (by decide)
  · obtain rfl : t = 2 := Int32.toInt_inj.mp q; exact h1 (by decide)
  · obtain rfl : t = 3 := Int32.toInt_inj.mp q; exact h4 (by decide)
  · obtain rfl : t = 4 := Int32.toInt_inj.mp q; exact h1 (by decide)
  · obtain rfl : t = 5 := Int32.toInt_inj.mp q; exact h2 (by decide)
  · obtain rfl : t = 6 := Int32.toInt_inj.mp q; exact h1 (by decide)
theorem bd0 : Bd 0 0 0 := ⟨by decide, by decide, by decide, by decide⟩
theorem nz_of {x : Int32} {n : Nat} (h : x.toInt = (n : Int)) (hn : 1 ≤ n) : ¬ x = 0 := fun q => by
  rw [q] at h
  have e : (0 : Int32).toInt = 0 := rfl
  omega
theorem d_jdk_29_method_65_0 : decode jdk_29_method_65_code 0 = .ok (.iload_n 0, 1) := by decide +kernel
theorem d_jdk_29_method_65_1 : decode jdk_29_method_65_code 1 = .ok (.iload_n 1, 1) := by decide +kernel
theorem d_jdk_29_method_65_2 : decode jdk_29_method_65_code 2 = .ok (.if_icmp .lt 7, 3) := by decide +kernel
theorem d_jdk_29_method_65_9 : decode jdk_29_method_65_code 9 = .ok (.iload_n 1, 1) := by decide +kernel
theorem d_jdk_29_method_65_10 : decode jdk_29_method_65_code 10 = .ok (.ireturn, 1) := by decide +kernel
theorem d_jdk_29_method_65_5 : decode jdk_29_method_65_code 5 = .ok (.iload_n 0, 1) := by decide +kernel
theorem d_jdk_29_method_65_6 : decode jdk_29_method_65_code 6 = .ok (.goto 4, 3) := by decide +kernel
set_option maxRecDepth 65536 in
set_option maxHeartbeats 40000000 in
theorem m_maxI {Z : State} {a0 : Array Value} (hw : ∀ d ∈ tables_1, d.before a0 Z = true) (x : Int32) (y : Int32) (h0 : Heap) (n0 : Nat)  : ∀ l, Does l Z (⟨"java/lang/Math", "max", "(II)I"⟩ : MethodName) jdk_29_method_65_code 2 (some .int) ({ frames := 0, cells := 0, slots := 0, locals := 0 } : Room) n0 #[(.int x), (.int y)] h0 (fun v h => v = some (.int (maxI x y)) ∧ h = h0) := by
  intro l
  refine Does.of_wp (Jvm.Free.JP.mathPlain rfl (by decide +kernel)) (Ls := #[.val (.int x), .val (.int y)]) (fun m => by first | (simp [entryFrame, mkF, argsToLocals, Value.category]; done) | rfl) ?_
  intro C
  refine WP.iloadN (pc' := 1) d_jdk_29_method_65_0 rfl rfl ?_
  refine WP.iloadN (pc' := 2) d_jdk_29_method_65_1 rfl rfl ?_
  refine WP.icmp_lt (pc1 := 9) (pc2 := 5) d_jdk_29_method_65_2 (by decide) (by decide) rfl ?_ ?_
  · intro hc2
    refine WP.iloadN (pc' := 10) d_jdk_29_method_65_9 rfl rfl ?_
    refine WP.iret d_jdk_29_method_65_10 rfl (by decide) (by decide) ⟨by unfold maxI; rw [if_pos hc2], rfl⟩
  · intro hc2
    refine WP.iloadN (pc' := 6) d_jdk_29_method_65_5 rfl rfl ?_
    refine WP.goto (pc' := 10) d_jdk_29_method_65_6 (by decide) (by decide) ?_
    refine WP.iret d_jdk_29_method_65_10 rfl (by decide) (by decide) ⟨by unfold maxI; rw [if_neg hc2], rfl⟩
theorem d_jdk_29_method_69_0 : decode jdk_29_method_69_code 0 = .ok (.iload_n 0, 1) := by decide +kernel
theorem d_jdk_29_method_69_1 : decode jdk_29_method_69_code 1 = .ok (.iload_n 1, 1) := by decide +kernel
theorem d_jdk_29_method_69_2 : decode jdk_29_method_69_code 2 = .ok (.if_icmp .gt 7, 3) := by decide +kernel
theorem d_jdk_29_method_69_9 : decode jdk_29_method_69_code 9 = .ok (.iload_n 1, 1) := by decide +kernel
theorem d_jdk_29_method_69_10 : decode jdk_29_method_69_code 10 = .ok (.ireturn, 1) := by decide +kernel
theorem d_jdk_29_method_69_5 : decode jdk_29_method_69_code 5 = .ok (.iload_n 0, 1) := by decide +kernel
theorem d_jdk_29_method_69_6 : decode jdk_29_method_69_code 6 = .ok (.goto 4, 3) := by decide +kernel
set_option maxRecDepth 65536 in
set_option maxHeartbeats 40000000 in
theorem m_minI {Z : State} {a0 : Array Value} (hw : ∀ d ∈ tables_1, d.before a0 Z = true) (x : Int32) (y : Int32) (h0 : Heap) (n0 : Nat)  : ∀ l, Does l Z (⟨"java/lang/Math", "min", "(II)I"⟩ : MethodName) jdk_29_method_69_code 2 (some .int) ({ frames := 0, cells := 0, slots := 0, locals := 0 } : Room) n0 #[(.int x), (.int y)] h0 (fun v h => v = some (.int (minI x y)) ∧ h = h0) := by
  intro l
  refine Does.of_wp (Jvm.Free.JP.mathPlain rfl (by decide +kernel)) (Ls := #[.val (.int x), .val (.int y)]) (fun m => by first | (simp [entryFrame, mkF, argsToLocals, Value.category]; done) | rfl) ?_
  intro C
  refine WP.iloadN (pc' := 1) d_jdk_29_method_69_0 rfl rfl ?_
  refine WP.iloadN (pc' := 2) d_jdk_29_method_69_1 rfl rfl ?_
  refine WP.icmp_gt (pc1 := 9) (pc2 := 5) d_jdk_29_method_69_2 (by decide) (by decide) rfl ?_ ?_
  · intro hc2
    refine WP.iloadN (pc' := 10) d_jdk_29_method_69_9 rfl rfl ?_
    refine WP.iret d_jdk_29_method_69_10 rfl (by decide) (by decide) ⟨by unfold minI; rw [if_pos hc2], rfl⟩
  · intro hc2
    refine WP.iloadN (pc' := 6) d_jdk_29_method_69_5 rfl rfl ?_
    refine WP.goto (pc' := 10) d_jdk_29_method_69_6 (by decide) (by decide) ?_
    refine WP.iret d_jdk_29_method_69_10 rfl (by decide) (by decide) ⟨by unfold minI; rw [if_neg hc2], rfl⟩
theorem d_jdk_29_method_66_0 : decode jdk_29_method_66_code 0 = .ok (.lload_n 0, 1) := by decide +kernel
theorem d_jdk_29_method_66_1 : decode jdk_29_method_66_code 1 = .ok (.lload_n 2, 1) := by decide +kernel
theorem d_jdk_29_method_66_2 : decode jdk_29_method_66_code 2 = .ok (.lcmp, 1) := by decide +kernel
theorem d_jdk_29_method_66_3 : decode jdk_29_method_66_code 3 = .ok (.ifCond .lt 7, 3) := by decide +kernel
theorem d_jdk_29_method_66_10 : decode jdk_29_method_66_code 10 = .ok (.lload_n 2, 1) := by decide +kernel
theorem d_jdk_29_method_66_11 : decode jdk_29_method_66_code 11 = .ok (.lreturn, 1) := by decide +kernel
theorem d_jdk_29_method_66_6 : decode jdk_29_method_66_code 6 = .ok (.lload_n 0, 1) := by decide +kernel
theorem d_jdk_29_method_66_7 : decode jdk_29_method_66_code 7 = .ok (.goto 4, 3) := by decide +kernel
set_option maxRecDepth 65536 in
set_option maxHeartbeats 40000000 in
theorem m_maxL {Z : State} {a0 : Array Value} (hw : ∀ d ∈ tables_1, d.before a0 Z = true) (x : Int64) (y : Int64) (h0 : Heap) (n0 : Nat)  : ∀ l, Does l Z (⟨"java/lang/Math", "max", "(JJ)J"⟩ : MethodName) jdk_29_method_66_code 4 (some .long) ({ frames := 0, cells := 0, slots := 0, locals := 0 } : Room) n0 #[(.long x), (.long y)] h0 (fun v h => v = some (.long (maxL x y)) ∧ h = h0) := by
  intro l
  refine Does.of_wp (Jvm.Free.JP.mathPlain rfl (by decide +kernel)) (Ls := #[.val (.long x), .second, .val (.long y), .second]) (fun m => by first | (simp [entryFrame, mkF, argsToLocals, Value.category]; done) | rfl) ?_
  intro C
  refine WP.lloadN (pc' := 1) d_jdk_29_method_66_0 rfl rfl ?_
  refine WP.lloadN (pc' := 2) d_jdk_29_method_66_1 rfl rfl ?_
  refine WP.lcmp_lt (pc' := 3) (pc1 := 10) (pc2 := 6) d_jdk_29_method_66_2 rfl d_jdk_29_method_66_3 (by decide) (by decide) rfl ?_ ?_
  · intro hc2
    refine WP.lloadN (pc' := 11) d_jdk_29_method_66_10 rfl rfl ?_
    refine WP.lret d_jdk_29_method_66_11 rfl (by decide) (by decide) ⟨by unfold maxL; rw [if_pos hc2], rfl⟩
  · intro hc2
    refine WP.lloadN (pc' := 7) d_jdk_29_method_66_6 rfl rfl ?_
    refine WP.goto (pc' := 11) d_jdk_29_method_66_7 (by decide) (by decide) ?_
    refine WP.lret d_jdk_29_method_66_11 rfl (by decide) (by decide) ⟨by unfold maxL; rw [if_neg hc2], rfl⟩
theorem d_jdk_29_method_70_0 : decode jdk_29_method_70_code 0 = .ok (.lload_n 0, 1) := by decide +kernel
theorem d_jdk_29_method_70_1 : decode jdk_29_method_70_code 1 = .ok (.lload_n 2, 1) := by decide +kernel
theorem d_jdk_29_method_70_2 : decode jdk_29_method_70_code 2 = .ok (.lcmp, 1) := by decide +kernel
theorem d_jdk_29_method_70_3 : decode jdk_29_method_70_code 3 = .ok (.ifCond .gt 7, 3) := by decide +kernel
theorem d_jdk_29_method_70_10 : decode jdk_29_method_70_code 10 = .ok (.lload_n 2, 1) := by decide +kernel
theorem d_jdk_29_method_70_11 : decode jdk_29_method_70_code 11 = .ok (.lreturn, 1) := by decide +kernel
theorem d_jdk_29_method_70_6 : decode jdk_29_method_70_code 6 = .ok (.lload_n 0, 1) := by decide +kernel
theorem d_jdk_29_method_70_7 : decode jdk_29_method_70_code 7 = .ok (.goto 4, 3) := by decide +kernel
set_option maxRecDepth 65536 in
set_option maxHeartbeats 40000000 in
theorem m_minL {Z : State} {a0 : Array Value} (hw : ∀ d ∈ tables_1, d.before a0 Z = true) (x : Int64) (y : Int64) (h0 : Heap) (n0 : Nat)  : ∀ l, Does l Z (⟨"java/lang/Math", "min", "(JJ)J"⟩ : MethodName) jdk_29_method_70_code 4 (some .long) ({ frames := 0, cells := 0, slots := 0, locals := 0 } : Room) n0 #[(.long x), (.long y)] h0 (fun v h => v = some (.long (minL x y)) ∧ h = h0) := by
  intro l
  refine Does.of_wp (Jvm.Free.JP.mathPlain rfl (by decide +kernel)) (Ls := #[.val (.long x), .second, .val (.long y), .second]) (fun m => by first | (simp [entryFrame, mkF, argsToLocals, Value.category]; done) | rfl) ?_
  intro C
  refine WP.lloadN (pc' := 1) d_jdk_29_method_70_0 rfl rfl ?_
  refine WP.lloadN (pc' := 2) d_jdk_29_method_70_1 rfl rfl ?_
  refine WP.lcmp_gt (pc' := 3) (pc1 := 10) (pc2 := 6) d_jdk_29_method_70_2 rfl d_jdk_29_method_70_3 (by decide) (by decide) rfl ?_ ?_
  · intro hc2
    refine WP.lloadN (pc' := 11) d_jdk_29_method_70_10 rfl rfl ?_
    refine WP.lret d_jdk_29_method_70_11 rfl (by decide) (by decide) ⟨by unfold minL; rw [if_pos hc2], rfl⟩
  · intro hc2
    refine WP.lloadN (pc' := 7) d_jdk_29_method_70_6 rfl rfl ?_
    refine WP.goto (pc' := 11) d_jdk_29_method_70_7 (by decide) (by decide) ?_
    refine WP.lret d_jdk_29_method_70_11 rfl (by decide) (by decide) ⟨by unfold minL; rw [if_neg hc2], rfl⟩
theorem d_prog_24_method_1_0 : decode prog_24_method_1_code 0 = .ok (.aload_n 0, 1) := by decide +kernel
theorem d_prog_24_method_1_1 : decode prog_24_method_1_code 1 = .ok (.invokespecial 3, 3) := by decide +kernel
theorem wd12 {Z : State} {a0 : Array Value} (hw : ∀ d ∈ tables_1, d.before a0 Z = true) : (Jvm.Cond.methodLink "com/example/tallyfold/tallyfold/EntryLines" (3 : Nat) ({ cls := "java/lang/Object", name := "<init>", desc := "()V" } : Jvm.MethodName)).before a0 Z = true := hw _ (List.mem_of_getElem? (i := 12) rfl)
theorem wd13 {Z : State} {a0 : Array Value} (hw : ∀ d ∈ tables_1, d.before a0 Z = true) : (Jvm.Cond.instanceMethod ({ cls := "java/lang/Object", name := "<init>", desc := "()V" } : Jvm.MethodName)).before a0 Z = true := hw _ (List.mem_of_getElem? (i := 13) rfl)
theorem wd14 {Z : State} {a0 : Array Value} (hw : ∀ d ∈ tables_1, d.before a0 Z = true) : (Jvm.Cond.code ({ cls := "java/lang/Object", name := "<init>", desc := "()V" } : Jvm.MethodName) object_method_1_code (1 : Nat) (Option.none : Option Jvm.ClassFile.FieldType)).before a0 Z = true := hw _ (List.mem_of_getElem? (i := 14) rfl)
theorem d_prog_24_method_1_4 : decode prog_24_method_1_code 4 = .ok (.aload_n 0, 1) := by decide +kernel
theorem d_prog_24_method_1_5 : decode prog_24_method_1_code 5 = .ok (.iconst 0, 1) := by decide +kernel
theorem d_prog_24_method_1_6 : decode prog_24_method_1_code 6 = .ok (.newarray .byte, 2) := by decide +kernel
theorem wd5 {Z : State} {a0 : Array Value} (hw : ∀ d ∈ tables_1, d.before a0 Z = true) : (Jvm.Cond.arrayClass Jvm.ClassFile.FieldType.byte).before a0 Z = true := hw _ (List.mem_of_getElem? (i := 5) rfl)
theorem d_prog_24_method_1_8 : decode prog_24_method_1_code 8 = .ok (.putfield 9, 3) := by decide +kernel
theorem wd15 {Z : State} {a0 : Array Value} (hw : ∀ d ∈ tables_1, d.before a0 Z = true) : (Jvm.Cond.fieldLink "com/example/tallyfold/tallyfold/EntryLines" (9 : Nat) "com/example/tallyfold/tallyfold/EntryLines" "bytes" "[B").before a0 Z = true := hw _ (List.mem_of_getElem? (i := 15) rfl)
theorem wd16 {Z : State} {a0 : Array Value} (hw : ∀ d ∈ tables_1, d.before a0 Z = true) : (Jvm.Cond.lays "com/example/tallyfold/tallyfold/EntryLines" "com/example/tallyfold/tallyfold/EntryLines" "bytes" "[B").before a0 Z = true := hw _ (List.mem_of_getElem? (i := 16) rfl)
theorem wd7 {Z : State} {a0 : Array Value} (hw : ∀ d ∈ tables_1, d.before a0 Z = true) : (Jvm.Cond.instantiable "com/example/tallyfold/tallyfold/EntryLines" (8 : Nat)).before a0 Z = true := hw _ (List.mem_of_getElem? (i := 7) rfl)
theorem wd34 {Z : State} {a0 : Array Value} (hw : ∀ d ∈ tables_1, d.before a0 Z = true) : (Jvm.Cond.lays "com/example/tallyfold/tallyfold/EntryLines" "com/example/tallyfold/tallyfold/EntryLines" "used" "I").before a0 Z = true := hw _ (List.mem_of_getElem? (i := 34) rfl)
theorem wd19 {Z : State} {a0 : Array Value} (hw : ∀ d ∈ tables_1, d.before a0 Z = true) : (Jvm.Cond.lays "com/example/tallyfold/tallyfold/EntryLines" "com/example/tallyfold/tallyfold/EntryLines" "starts" "[I").before a0 Z = true := hw _ (List.mem_of_getElem? (i := 19) rfl)
theorem wd21 {Z : State} {a0 : Array Value} (hw : ∀ d ∈ tables_1, d.before a0 Z = true) : (Jvm.Cond.lays "com/example/tallyfold/tallyfold/EntryLines" "com/example/tallyfold/tallyfold/EntryLines" "ends" "[I").before a0 Z = true := hw _ (List.mem_of_getElem? (i := 21) rfl)
theorem wd76 {Z : State} {a0 : Array Value} (hw : ∀ d ∈ tables_1, d.before a0 Z = true) : (Jvm.Cond.lays "com/example/tallyfold/tallyfold/EntryLines" "com/example/tallyfold/tallyfold/EntryLines" "lowest" "I").before a0 Z = true := hw _ (List.mem_of_getElem? (i := 76) rfl)
theorem wd64 {Z : State} {a0 : Array Value} (hw : ∀ d ∈ tables_1, d.before a0 Z = true) : (Jvm.Cond.lays "com/example/tallyfold/tallyfold/EntryLines" "com/example/tallyfold/tallyfold/EntryLines" "count" "I").before a0 Z = true := hw _ (List.mem_of_getElem? (i := 64) rfl)
theorem wd79 {Z : State} {a0 : Array Value} (hw : ∀ d ∈ tables_1, d.before a0 Z = true) : (Jvm.Cond.lays "com/example/tallyfold/tallyfold/EntryLines" "com/example/tallyfold/tallyfold/EntryLines" "income" "J").before a0 Z = true := hw _ (List.mem_of_getElem? (i := 79) rfl)
theorem wd30 {Z : State} {a0 : Array Value} (hw : ∀ d ∈ tables_1, d.before a0 Z = true) : (Jvm.Cond.lays "com/example/tallyfold/tallyfold/EntryLines" "com/example/tallyfold/tallyfold/EntryLines" "expenses" "J").before a0 Z = true := hw _ (List.mem_of_getElem? (i := 30) rfl)
theorem d_prog_24_method_1_11 : decode prog_24_method_1_code 11 = .ok (.aload_n 0, 1) := by decide +kernel
theorem d_prog_24_method_1_12 : decode prog_24_method_1_code 12 = .ok (.iconst 0, 1) := by decide +kernel
theorem d_prog_24_method_1_13 : decode prog_24_method_1_code 13 = .ok (.newarray .int, 2) := by decide +kernel
theorem wd17 {Z : State} {a0 : Array Value} (hw : ∀ d ∈ tables_1, d.before a0 Z = true) : (Jvm.Cond.arrayClass Jvm.ClassFile.FieldType.int).before a0 Z = true := hw _ (List.mem_of_getElem? (i := 17) rfl)
theorem d_prog_24_method_1_15 : decode prog_24_method_1_code 15 = .ok (.putfield 15, 3) := by decide +kernel
theorem wd18 {Z : State} {a0 : Array Value} (hw : ∀ d ∈ tables_1, d.before a0 Z = true) : (Jvm.Cond.fieldLink "com/example/tallyfold/tallyfold/EntryLines" (15 : Nat) "com/example/tallyfold/tallyfold/EntryLines" "starts" "[I").before a0 Z = true := hw _ (List.mem_of_getElem? (i := 18) rfl)
theorem d_prog_24_method_1_18 : decode prog_24_method_1_code 18 = .ok (.aload_n 0, 1) := by decide +kernel
theorem d_prog_24_method_1_19 : decode prog_24_method_1_code 19 = .ok (.iconst 0, 1) := by decide +kernel
theorem d_prog_24_method_1_20 : decode prog_24_method_1_code 20 = .ok (.newarray .int, 2) := by decide +kernel
theorem d_prog_24_method_1_22 : decode prog_24_method_1_code 22 = .ok (.putfield 19, 3) := by decide +kernel
theorem wd20 {Z : State} {a0 : Array Value} (hw : ∀ d ∈ tables_1, d.before a0 Z = true) : (Jvm.Cond.fieldLink "com/example/tallyfold/tallyfold/EntryLines" (19 : Nat) "com/example/tallyfold/tallyfold/EntryLines" "ends" "[I").before a0 Z = true := hw _ (List.mem_of_getElem? (i := 20) rfl)
theorem d_prog_24_method_1_25 : decode prog_24_method_1_code 25 = .ok (.return_, 1) := by decide +kernel
theorem pn_0 : plainName "com/example/tallyfold/tallyfold/EntryLines" = true := by first | (simp [plainName, overriddenIn]; done) | decide +kernel
set_option maxRecDepth 65536 in
set_option maxHeartbeats 40000000 in
theorem m_ini {Z : State} {a0 : Array Value} (hw : ∀ d ∈ tables_1, d.before a0 Z = true) (a : Addr) (h0 : Heap) (n0 : Nat) (O0 : Old Z n0 h0) (Z0 : n0 ≤ h0.size) (g_a : n0 ≤ a) (E0 : Exa Z h0 a "com/example/tallyfold/tallyfold/EntryLines") (F_bytes : Fld Z h0 a "com/example/tallyfold/tallyfold/EntryLines" "bytes" "[B" .null) (F_used : Fld Z h0 a "com/example/tallyfold/tallyfold/EntryLines" "used" "I" (.int (0 : Int32))) (F_starts : Fld Z h0 a "com/example/tallyfold/tallyfold/EntryLines" "starts" "[I" .null) (F_ends : Fld Z h0 a "com/example/tallyfold/tallyfold/EntryLines" "ends" "[I" .null) (F_lowest : Fld Z h0 a "com/example/tallyfold/tallyfold/EntryLines" "lowest" "I" (.int (0 : Int32))) (F_count : Fld Z h0 a "com/example/tallyfold/tallyfold/EntryLines" "count" "I" (.int (0 : Int32))) (F_income : Fld Z h0 a "com/example/tallyfold/tallyfold/EntryLines" "income" "J" (.long (0 : Int64))) (F_expenses : Fld Z h0 a "com/example/tallyfold/tallyfold/EntryLines" "expenses" "J" (.long (0 : Int64))) (ln : Addr) (nl : Nat) (gL : Nat → Int32) (L0 : Ari Z h0 ln .byte nl gL) (n_ln_a : ln ≠ a) : ∀ l, Does l Z (⟨"com/example/tallyfold/tallyfold/EntryLines", "<init>", "()V"⟩ : MethodName) prog_24_method_1_code 1 none ({ frames := 1, cells := 3, slots := 0, locals := 12 } : Room) n0 #[(.ref a)] h0 (fun v h => v = none ∧ ∃ bb sb eb : Addr, Rep Z n0 h a bb sb eb ln 0 0 0 0 0 0 0 nl (fun _ => 0)) := by
  intro l
  refine Does.of_wp (plainFor_of_name pn_0) (Ls := #[.val (.ref a)]) (fun m => by first | (simp [entryFrame, mkF, argsToLocals, Value.category]; done) | rfl) ?_
  intro C
  refine WP.aloadN (pc' := 1) d_prog_24_method_1_0 rfl rfl rfl ?_
  refine WP.initO (wd := 0) (pc' := 4) d_prog_24_method_1_1 rfl (wd12 hw) (wd13 hw) (wd14 hw) rfl (by decide) (Nat.le_of_eq rfl) (by decide) ?_
  refine WP.aloadN (pc' := 5) d_prog_24_method_1_4 rfl rfl rfl ?_
  refine WP.iconst (pc' := 6) d_prog_24_method_1_5 rfl (z := 0) rfl ?_
  refine WP.newPI (ty := .byte) (n := 0) (cap := 0) (cl' := 1) (sl' := 0) (pc' := 8) d_prog_24_method_1_6 rfl rfl rfl (wd5 hw) (by decide) (by decide) (by decide) rfl rfl (by decide) (by decide) ?_
  intro h1 b1 g1 E1 A1
  have ge2 : n0 ≤ b1 := by rw [g1]; exact Z0
  have ne3 : a ≠ b1 := by rw [g1]; exact Nat.ne_of_lt E0.lt
  have ne4 : ln ≠ b1 := by rw [g1]; exact Nat.ne_of_lt L0.lt
  have E5 := E0.ext E1
  have V6 := L0.ext E1
  have F7 := F_bytes.ext E1
  have F8 := F_used.ext E1
  have F9 := F_starts.ext E1
  have F10 := F_ends.ext E1
  have F11 := F_lowest.ext E1
  have F12 := F_count.ext E1
  have F13 := F_income.ext E1
  have F14 := F_expenses.ext E1
  have O15 := O0.ext E1
  have Z16 : n0 ≤ h1.size := Nat.le_trans Z0 E1.1
  refine WP.putF (pc' := 11) d_prog_24_method_1_8 rfl (host := "") (Or.inl (wd15 hw)) Via.refl F7 E5 (Or.inl (wd16 hw)) (wd7 hw) (ty := (.array .byte)) (by decide) rfl rfl g_a ?_
  intro h17 W18
  have Kw19 := Keep.of_wr W18
  have E20 := E5.keep Kw19
  have V21 := V6.keep Kw19 (ninS n_ln_a nin0)
  have V22 := A1.keep Kw19 (ninS (Ne.symm ne3) nin0)
  have O23 := O15.keep Kw19 (allS g_a all0)
  have Z24 : n0 ≤ h17.size := Nat.le_trans Z16 Kw19.1
  have F25 := F7.same W18
  have F26 := F8.other W18 (Or.inr (slot_ne (Or.inl (wd34 hw)) (Or.inl (wd16 hw)) (by decide) (t := .int) (t' := (.array .byte)) (by decide) (by decide)))
  have F27 := F9.other W18 (Or.inr (slot_ne (Or.inl (wd19 hw)) (Or.inl (wd16 hw)) (by decide) (t := (.array .int)) (t' := (.array .byte)) (by decide) (by decide)))
  have F28 := F10.other W18 (Or.inr (slot_ne (Or.inl (wd21 hw)) (Or.inl (wd16 hw)) (by decide) (t := (.array .int)) (t' := (.array .byte)) (by decide) (by decide)))
  have F29 := F11.other W18 (Or.inr (slot_ne (Or.inl (wd76 hw)) (Or.inl (wd16 hw)) (by decide) (t := .int) (t' := (.array .byte)) (by decide) (by decide)))
  have F30 := F12.other W18 (Or.inr (slot_ne (Or.inl (wd64 hw)) (Or.inl (wd16 hw)) (by decide) (t := .int) (t' := (.array .byte)) (by decide) (by decide)))
  have F31 := F13.other W18 (Or.inr (slot_ne (Or.inl (wd79 hw)) (Or.inl (wd16 hw)) (by decide) (t := .long) (t' := (.array .byte)) (by decide) (by decide)))
  have F32 := F14.other W18 (Or.inr (slot_ne (Or.inl (wd30 hw)) (Or.inl (wd16 hw)) (by decide) (t := .long) (t' := (.array .byte)) (by decide) (by decide)))
  refine WP.aloadN (pc' := 12) d_prog_24_method_1_11 rfl rfl rfl ?_
  refine WP.iconst (pc' := 13) d_prog_24_method_1_12 rfl (z := 0) rfl ?_
  refine WP.newPI (ty := .int) (n := 0) (cap := 0) (cl' := 2) (sl' := 0) (pc' := 15) d_prog_24_method_1_13 rfl rfl rfl (wd17 hw) (by decide) (by decide) (by decide) rfl rfl (by decide) (by decide) ?_
  intro h33 b33 g33 E33 A33
  have ge34 : n0 ≤ b33 := by rw [g33]; exact Z24
  have ne35 : a ≠ b33 := by rw [g33]; exact Nat.ne_of_lt E20.lt
  have ne36 : ln ≠ b33 := by rw [g33]; exact Nat.ne_of_lt V21.lt
  have ne37 : b1 ≠ b33 := by rw [g33]; exact Nat.ne_of_lt V22.lt
  have E38 := E20.ext E33
  have V39 := V21.ext E33
  have V40 := V22.ext E33
  have F41 := F25.ext E33
  have F42 := F26.ext E33
  have F43 := F27.ext E33
  have F44 := F28.ext E33
  have F45 := F29.ext E33
  have F46 := F30.ext E33
  have F47 := F31.ext E33
  have F48 := F32.ext E33
  have O49 := O23.ext E33
  have Z50 : n0 ≤ h33.size := Nat.le_trans Z24 E33.1
  refine WP.putF (pc' := 18) d_prog_24_method_1_15 rfl (host := "") (Or.inl (wd18 hw)) Via.refl F43 E38 (Or.inl (wd19 hw)) (wd7 hw) (ty := (.array .int)) (by decide) rfl rfl g_a ?_
  intro h51 W52
  have Kw53 := Keep.of_wr W52
  have E54 := E38.keep Kw53
  have V55 := V39.keep Kw53 (ninS n_ln_a nin0)
  have V56 := V40.keep Kw53 (ninS (Ne.symm ne3) nin0)
  have V57 := A33.keep Kw53 (ninS (Ne.symm ne35) nin0)
  have O58 := O49.keep Kw53 (allS g_a all0)
  have Z59 : n0 ≤ h51.size := Nat.le_trans Z50 Kw53.1
  have F60 := F41.other W52 (Or.inr (slot_ne (Or.inl (wd16 hw)) (Or.inl (wd19 hw)) (by decide) (t := (.array .byte)) (t' := (.array .int)) (by decide) (by decide)))
  have F61 := F42.other W52 (Or.inr (slot_ne (Or.inl (wd34 hw)) (Or.inl (wd19 hw)) (by decide) (t := .int) (t' := (.array .int)) (by decide) (by decide)))
  have F62 := F43.same W52
  have F63 := F44.other W52 (Or.inr (slot_ne (Or.inl (wd21 hw)) (Or.inl (wd19 hw)) (by decide) (t := (.array .int)) (t' := (.array .int)) (by decide) (by decide)))
  have F64 := F45.other W52 (Or.inr (slot_ne (Or.inl (wd76 hw)) (Or.inl (wd19 hw)) (by decide) (t := .int) (t' := (.array .int)) (by decide) (by decide)))
  have F65 := F46.other W52 (Or.inr (slot_ne (Or.inl (wd64 hw)) (Or.inl (wd19 hw)) (by decide) (t := .int) (t' := (.array .int)) (by decide) (by decide)))
  have F66 := F47.other W52 (Or.inr (slot_ne (Or.inl (wd79 hw)) (Or.inl (wd19 hw)) (by decide) (t := .long) (t' := (.array .int)) (by decide) (by decide)))
  have F67 := F48.other W52 (Or.inr (slot_ne (Or.inl (wd30 hw)) (Or.inl (wd19 hw)) (by decide) (t := .long) (t' := (.array .int)) (by decide) (by decide)))
  refine WP.aloadN (pc' := 19) d_prog_24_method_1_18 rfl rfl rfl ?_
  refine WP.iconst (pc' := 20) d_prog_24_method_1_19 rfl (z := 0) rfl ?_
  refine WP.newPI (ty := .int) (n := 0) (cap := 0) (cl' := 3) (sl' := 0) (pc' := 22) d_prog_24_method_1_20 rfl rfl rfl (wd17 hw) (by decide) (by decide) (by decide) rfl rfl (by decide) (by decide) ?_
  intro h68 b68 g68 E68 A68
  have ge69 : n0 ≤ b68 := by rw [g68]; exact Z59
  have ne70 : a ≠ b68 := by rw [g68]; exact Nat.ne_of_lt E54.lt
  have ne71 : ln ≠ b68 := by rw [g68]; exact Nat.ne_of_lt V55.lt
  have ne72 : b1 ≠ b68 := by rw [g68]; exact Nat.ne_of_lt V56.lt
  have ne73 : b33 ≠ b68 := by rw [g68]; exact Nat.ne_of_lt V57.lt
  have E74 := E54.ext E68
  have V75 := V55.ext E68
  have V76 := V56.ext E68
  have V77 := V57.ext E68
  have F78 := F60.ext E68
  have F79 := F61.ext E68
  have F80 := F62.ext E68
  have F81 := F63.ext E68
  have F82 := F64.ext E68
  have F83 := F65.ext E68
  have F84 := F66.ext E68
  have F85 := F67.ext E68
  have O86 := O58.ext E68
  have Z87 : n0 ≤ h68.size := Nat.le_trans Z59 E68.1
  refine WP.putF (pc' := 25) d_prog_24_method_1_22 rfl (host := "") (Or.inl (wd20 hw)) Via.refl F81 E74 (Or.inl (wd21 hw)) (wd7 hw) (ty := (.array .int)) (by decide) rfl rfl g_a ?_
  intro h88 W89
  have Kw90 := Keep.of_wr W89
  have E91 := E74.keep Kw90
  have V92 := V75.keep Kw90 (ninS n_ln_a nin0)
  have V93 := V76.keep Kw90 (ninS (Ne.symm ne3) nin0)
  have V94 := V77.keep Kw90 (ninS (Ne.symm ne35) nin0)
  have V95 := A68.keep Kw90 (ninS (Ne.symm ne70) nin0)
  have O96 := O86.keep Kw90 (allS g_a all0)
  have Z97 : n0 ≤ h88.size := Nat.le_trans Z87 Kw90.1
  have F98 := F78.other W89 (Or.inr (slot_ne (Or.inl (wd16 hw)) (Or.inl (wd21 hw)) (by decide) (t := (.array .byte)) (t' := (.array .int)) (by decide) (by decide)))
  have F99 := F79.other W89 (Or.inr (slot_ne (Or.inl (wd34 hw)) (Or.inl (wd21 hw)) (by decide) (t := .int) (t' := (.array .int)) (by decide) (by decide)))
  have F100 := F80.other W89 (Or.inr (slot_ne (Or.inl (wd19 hw)) (Or.inl (wd21 hw)) (by decide) (t := (.array .int)) (t' := (.array .int)) (by decide) (by decide)))
  have F101 := F81.same W89
  have F102 := F82.other W89 (Or.inr (slot_ne (Or.inl (wd76 hw)) (Or.inl (wd21 hw)) (by decide) (t := .int) (t' := (.array .int)) (by decide) (by decide)))
  have F103 := F83.other W89 (Or.inr (slot_ne (Or.inl (wd64 hw)) (Or.inl (wd21 hw)) (by decide) (t := .int) (t' := (.array .int)) (by decide) (by decide)))
  have F104 := F84.other W89 (Or.inr (slot_ne (Or.inl (wd79 hw)) (Or.inl (wd21 hw)) (by decide) (t := .long) (t' := (.array .int)) (by decide) (by decide)))
  have F105 := F85.other W89 (Or.inr (slot_ne (Or.inl (wd30 hw)) (Or.inl (wd21 hw)) (by decide) (t := .long) (t' := (.array .int)) (by decide) (by decide)))
  exact WP.vret d_prog_24_method_1_25 rfl (by decide) (by decide) ⟨rfl, _, _, _, ⟨O96, ⟨E91, F98, F99, F100, F101, F102, F103, F104, F105⟩, ⟨⟨_, V93⟩, ⟨_, V94⟩, ⟨_, V95, fun i hi => absurd hi (by omega)⟩, ⟨_, V92⟩⟩, ⟨g_a, ge2, ge34, ge69⟩, ⟨ne37, ne72, ne73, ne3, ne35, ne70, n_ln_a, ne4, ne36, ne71⟩, fun _ _ => rfl⟩⟩
theorem d_jdk_65_method_123_0 : decode jdk_65_method_123_code 0 = .ok (.iload_n 1, 1) := by decide +kernel
theorem d_jdk_65_method_123_1 : decode jdk_65_method_123_code 1 = .ok (.aload_n 0, 1) := by decide +kernel
theorem d_jdk_65_method_123_2 : decode jdk_65_method_123_code 2 = .ok (.arraylength, 1) := by decide +kernel
theorem d_jdk_65_method_123_3 : decode jdk_65_method_123_code 3 = .ok (.if_icmp .ne 11, 3) := by decide +kernel
theorem d_jdk_65_method_123_14 : decode jdk_65_method_123_code 14 = .ok (.iload_n 1, 1) := by decide +kernel
theorem d_jdk_65_method_123_15 : decode jdk_65_method_123_code 15 = .ok (.newarray .int, 2) := by decide +kernel
theorem d_jdk_65_method_123_17 : decode jdk_65_method_123_code 17 = .ok (.astore_n 2, 1) := by decide +kernel
theorem d_jdk_65_method_123_18 : decode jdk_65_method_123_code 18 = .ok (.aload_n 0, 1) := by decide +kernel
theorem d_jdk_65_method_123_19 : decode jdk_65_method_123_code 19 = .ok (.iconst 0, 1) := by decide +kernel
theorem d_jdk_65_method_123_20 : decode jdk_65_method_123_code 20 = .ok (.aload_n 2, 1) := by decide +kernel
theorem d_jdk_65_method_123_21 : decode jdk_65_method_123_code 21 = .ok (.iconst 0, 1) := by decide +kernel
theorem d_jdk_65_method_123_22 : decode jdk_65_method_123_code 22 = .ok (.aload_n 0, 1) := by decide +kernel
theorem d_jdk_65_method_123_23 : decode jdk_65_method_123_code 23 = .ok (.arraylength, 1) := by decide +kernel
theorem d_jdk_65_method_123_24 : decode jdk_65_method_123_code 24 = .ok (.iload_n 1, 1) := by decide +kernel
theorem d_jdk_65_method_123_25 : decode jdk_65_method_123_code 25 = .ok (.invokestatic 304, 3) := by decide +kernel
theorem wd49 {Z : State} {a0 : Array Value} (hw : ∀ d ∈ tables_1, d.before a0 Z = true) : (Jvm.Cond.methodLink "java/util/Arrays" (304 : Nat) ({ cls := "java/lang/Math", name := "min", desc := "(II)I" } : Jvm.MethodName)).before a0 Z = true := hw _ (List.mem_of_getElem? (i := 49) rfl)
theorem wd51 {Z : State} {a0 : Array Value} (hw : ∀ d ∈ tables_1, d.before a0 Z = true) : (Jvm.Cond.code ({ cls := "java/lang/Math", name := "min", desc := "(II)I" } : Jvm.MethodName) jdk_29_method_69_code (2 : Nat) (Option.some Jvm.ClassFile.FieldType.int)).before a0 Z = true := hw _ (List.mem_of_getElem? (i := 51) rfl)
theorem wd39 {Z : State} {a0 : Array Value} (hw : ∀ d ∈ tables_1, d.before a0 Z = true) : (Jvm.Cond.initialized "java/lang/Math").before a0 Z = true := hw _ (List.mem_of_getElem? (i := 39) rfl)
theorem pd_0 : parseMethodDescriptor "(II)I" = some ⟨[.int, .int], some .int⟩ := by decide +kernel
theorem wd50 {Z : State} {a0 : Array Value} (hw : ∀ d ∈ tables_1, d.before a0 Z = true) : (Jvm.Cond.static ({ cls := "java/lang/Math", name := "min", desc := "(II)I" } : Jvm.MethodName)).before a0 Z = true := hw _ (List.mem_of_getElem? (i := 50) rfl)
theorem d_jdk_65_method_123_28 : decode jdk_65_method_123_code 28 = .ok (.invokestatic 150, 3) := by decide +kernel
theorem wd52 {Z : State} {a0 : Array Value} (hw : ∀ d ∈ tables_1, d.before a0 Z = true) : (Jvm.Cond.methodLink "java/util/Arrays" (150 : Nat) ({ cls := "java/lang/System", name := "arraycopy", desc := "(Ljava/lang/Object;ILjava/lang/Object;II)V" } : Jvm.MethodName)).before a0 Z = true := hw _ (List.mem_of_getElem? (i := 52) rfl)
theorem wd55 {Z : State} {a0 : Array Value} (hw : ∀ d ∈ tables_1, d.before a0 Z = true) : (Jvm.Cond.native ({ cls := "java/lang/System", name := "arraycopy", desc := "(Ljava/lang/Object;ILjava/lang/Object;II)V" } : Jvm.MethodName)).before a0 Z = true := hw _ (List.mem_of_getElem? (i := 55) rfl)
theorem wd53 {Z : State} {a0 : Array Value} (hw : ∀ d ∈ tables_1, d.before a0 Z = true) : (Jvm.Cond.static ({ cls := "java/lang/System", name := "arraycopy", desc := "(Ljava/lang/Object;ILjava/lang/Object;II)V" } : Jvm.MethodName)).before a0 Z = true := hw _ (List.mem_of_getElem? (i := 53) rfl)
theorem wd54 {Z : State} {a0 : Array Value} (hw : ∀ d ∈ tables_1, d.before a0 Z = true) : (Jvm.Cond.initialized "java/lang/System").before a0 Z = true := hw _ (List.mem_of_getElem? (i := 54) rfl)
theorem d_jdk_65_method_123_31 : decode jdk_65_method_123_code 31 = .ok (.aload_n 2, 1) := by decide +kernel
theorem d_jdk_65_method_123_32 : decode jdk_65_method_123_code 32 = .ok (.areturn, 1) := by decide +kernel
theorem pn_1 : plainName "java/util/Arrays" = true := by first | (simp [plainName, overriddenIn]; done) | decide +kernel
set_option maxRecDepth 65536 in
set_option maxHeartbeats 40000000 in
theorem m_cpI64 {Z : State} {a0 : Array Value} (hw : ∀ d ∈ tables_1, d.before a0 Z = true) (a : Addr) (p : Int32) (h0 : Heap) (n0 : Nat) (Z0 : n0 ≤ h0.size) (g : Nat → Int32) (n m : Nat) (A0 : Ari Z h0 a .int n g) (hp : p.toInt = (m : Int)) (hnm : n < m) (hm : m ≤ 64) : ∀ l, Does l Z (⟨"java/util/Arrays", "copyOf", "([II)[I"⟩ : MethodName) jdk_65_method_123_code 3 (some (.array .int)) ({ frames := 1, cells := 1, slots := 64, locals := 18 } : Room) n0 #[(.ref a), (.int p)] h0 (fun v h => ∃ b : Addr, v = some (.ref b) ∧ Keep h0 h [] ∧ n0 ≤ b ∧ h0.size ≤ b ∧ Ari Z h b .int m (fun i => if i < n then g i else 0)) := by
  intro l
  refine Does.of_wp (plainFor_of_name pn_1) (Ls := #[.val (.ref a), .val (.int p), .unset]) (fun m => by first | (simp [entryFrame, mkF, argsToLocals, Value.category]; done) | rfl) ?_
  intro C
  have K0 := Keep.refl h0 []
  refine WP.iloadN (pc' := 1) d_jdk_65_method_123_0 rfl rfl ?_
  refine WP.aloadN (pc' := 2) d_jdk_65_method_123_1 rfl rfl rfl ?_
  refine WP.arraylengthI (z := (n : Nat).toInt32) (pc' := 3) d_jdk_65_method_123_2 rfl A0 rfl ?_
  have hc3 : ¬ p = (n : Nat).toInt32 := fun q => by rw [q, natI (by omega)] at hp; omega
  refine WP.icmp_ne (pc1 := 14) (pc2 := 6) d_jdk_65_method_123_3 (by decide) (by decide) rfl (fun _ => ?_) (fun k => absurd k hc3)
  refine WP.iloadN (pc' := 15) d_jdk_65_method_123_14 rfl rfl ?_
  refine WP.newPI (ty := .int) (n := m) (cap := 64) (cl' := 1) (sl' := 64) (pc' := 17) d_jdk_65_method_123_15 rfl rfl rfl (wd17 hw) hp hm (by decide) rfl rfl (by decide) (by decide) ?_
  intro h1 b1 g1 E1 A1
  have ge2 : n0 ≤ b1 := by rw [g1]; exact Z0
  have sz3 : h0.size ≤ b1 := by rw [g1]; exact K0.1
  have ne4 : a ≠ b1 := by rw [g1]; exact Nat.ne_of_lt A0.lt
  have V5 := A0.ext E1
  have K6 := K0.ext E1
  have Z7 : n0 ≤ h1.size := Nat.le_trans Z0 E1.1
  refine WP.astoreN (pc' := 18) d_jdk_65_method_123_17 rfl rfl (Ls' := #[.val (.ref a), .val (.int p), .val (.ref b1)]) rfl ?_
  refine WP.aloadN (pc' := 19) d_jdk_65_method_123_18 rfl rfl rfl ?_
  refine WP.iconst (pc' := 20) d_jdk_65_method_123_19 rfl (z := 0) rfl ?_
  refine WP.aloadN (pc' := 21) d_jdk_65_method_123_20 rfl rfl rfl ?_
  refine WP.iconst (pc' := 22) d_jdk_65_method_123_21 rfl (z := 0) rfl ?_
  refine WP.aloadN (pc' := 23) d_jdk_65_method_123_22 rfl rfl rfl ?_
  refine WP.arraylengthI (z := (n : Nat).toInt32) (pc' := 24) d_jdk_65_method_123_23 rfl V5 rfl ?_
  refine WP.iloadN (pc' := 25) d_jdk_65_method_123_24 rfl rfl ?_
  refine WP.callS (argsL := [(.int (n : Nat).toInt32), (.int p)]) (rest := [(.int (0 : Int32)), (.ref b1), (.int (0 : Int32)), (.ref a)]) (wd := 4) (cl' := 1) (sl' := 64) (pc' := 28) d_jdk_65_method_123_25 rfl (wd49 hw) (wd50 hw) (wd39 hw) (wd51 hw) (by decide) (m_minI hw (n : Nat).toInt32 p h1 n0) pd_0 rfl rfl rfl (Nat.le_of_eq rfl) (by decide) (by decide) rfl rfl (by decide) (by decide) ?_
  rintro v hh8 ⟨rfl, he8⟩
  rw [he8]
  refine WP.castS (st' := [(.int (minI (n : Nat).toInt32 p)), (.int (0 : Int32)), (.ref b1), (.int (0 : Int32)), (.ref a)]) rfl ?_
  refine WP.arraycopy (wd := 0) (sp := 0) (dp := 0) (nn := n) (pc' := 31) d_jdk_65_method_123_28 rfl (wd52 hw) (wd55 hw) (wd53 hw) (wd54 hw) V5 A1 rfl rfl rfl (by rw [minI_v, natI (by omega), hp]; omega) (by omega) (by omega) ge2 rfl (by decide) (Nat.le_of_eq rfl) (by decide) ?_
  intro h9 K9 A9
  have V10 := V5.keep K9 (ninS ne4 nin0)
  have K11 := K6.trans K9 (allS (Or.inr sz3) all0)
  have Z12 : n0 ≤ h9.size := Nat.le_trans Z7 K9.1
  refine WP.aloadN (pc' := 32) d_jdk_65_method_123_31 rfl rfl rfl ?_
  refine WP.aret d_jdk_65_method_123_32 rfl rfl rfl (by decide) (by decide) ⟨_, rfl, K11, ge2, sz3, (A9).congr fun i hi => if q : i < n then (by unfold blit; rw [if_pos ⟨by omega, by omega⟩, if_pos q]; congr 1; omega) else (by unfold blit; rw [if_neg (by omega), if_neg q])⟩
theorem d_jdk_65_method_121_0 : decode jdk_65_method_121_code 0 = .ok (.iload_n 1, 1) := by decide +kernel
theorem d_jdk_65_method_121_1 : decode jdk_65_method_121_code 1 = .ok (.aload_n 0, 1) := by decide +kernel
theorem d_jdk_65_method_121_2 : decode jdk_65_method_121_code 2 = .ok (.arraylength, 1) := by decide +kernel
theorem d_jdk_65_method_121_3 : decode jdk_65_method_121_code 3 = .ok (.if_icmp .ne 11, 3) := by decide +kernel
theorem d_jdk_65_method_121_14 : decode jdk_65_method_121_code 14 = .ok (.iload_n 1, 1) := by decide +kernel
theorem d_jdk_65_method_121_15 : decode jdk_65_method_121_code 15 = .ok (.newarray .byte, 2) := by decide +kernel
theorem d_jdk_65_method_121_17 : decode jdk_65_method_121_code 17 = .ok (.astore_n 2, 1) := by decide +kernel
theorem d_jdk_65_method_121_18 : decode jdk_65_method_121_code 18 = .ok (.aload_n 0, 1) := by decide +kernel
theorem d_jdk_65_method_121_19 : decode jdk_65_method_121_code 19 = .ok (.iconst 0, 1) := by decide +kernel
theorem d_jdk_65_method_121_20 : decode jdk_65_method_121_code 20 = .ok (.aload_n 2, 1) := by decide +kernel
theorem d_jdk_65_method_121_21 : decode jdk_65_method_121_code 21 = .ok (.iconst 0, 1) := by decide +kernel
theorem d_jdk_65_method_121_22 : decode jdk_65_method_121_code 22 = .ok (.aload_n 0, 1) := by decide +kernel
theorem d_jdk_65_method_121_23 : decode jdk_65_method_121_code 23 = .ok (.arraylength, 1) := by decide +kernel
theorem d_jdk_65_method_121_24 : decode jdk_65_method_121_code 24 = .ok (.iload_n 1, 1) := by decide +kernel
theorem d_jdk_65_method_121_25 : decode jdk_65_method_121_code 25 = .ok (.invokestatic 304, 3) := by decide +kernel
theorem d_jdk_65_method_121_28 : decode jdk_65_method_121_code 28 = .ok (.invokestatic 150, 3) := by decide +kernel
theorem d_jdk_65_method_121_31 : decode jdk_65_method_121_code 31 = .ok (.aload_n 2, 1) := by decide +kernel
theorem d_jdk_65_method_121_32 : decode jdk_65_method_121_code 32 = .ok (.areturn, 1) := by decide +kernel
set_option maxRecDepth 65536 in
set_option maxHeartbeats 40000000 in
theorem m_cpB {Z : State} {a0 : Array Value} (hw : ∀ d ∈ tables_1, d.before a0 Z = true) (a : Addr) (p : Int32) (h0 : Heap) (n0 : Nat) (Z0 : n0 ≤ h0.size) (g : Nat → Int32) (n m : Nat) (A0 : Ari Z h0 a .byte n g) (hp : p.toInt = (m : Int)) (hnm : n < m) (hm : m ≤ 4096) : ∀ l, Does l Z (⟨"java/util/Arrays", "copyOf", "([BI)[B"⟩ : MethodName) jdk_65_method_121_code 3 (some (.array .byte)) ({ frames := 1, cells := 1, slots := 4096, locals := 18 } : Room) n0 #[(.ref a), (.int p)] h0 (fun v h => ∃ b : Addr, v = some (.ref b) ∧ Keep h0 h [] ∧ n0 ≤ b ∧ h0.size ≤ b ∧ Ari Z h b .byte m (fun i => if i < n then g i else 0)) := by
  intro l
  refine Does.of_wp (plainFor_of_name pn_1) (Ls := #[.val (.ref a), .val (.int p), .unset]) (fun m => by first | (simp [entryFrame, mkF, argsToLocals, Value.category]; done) | rfl) ?_
  intro C
  have K0 := Keep.refl h0 []
  refine WP.iloadN (pc' := 1) d_jdk_65_method_121_0 rfl rfl ?_
  refine WP.aloadN (pc' := 2) d_jdk_65_method_121_1 rfl rfl rfl ?_
  refine WP.arraylengthI (z := (n : Nat).toInt32) (pc' := 3) d_jdk_65_method_121_2 rfl A0 rfl ?_
  have hc3 : ¬ p = (n : Nat).toInt32 := fun q => by rw [q, natI (by omega)] at hp; omega
  refine WP.icmp_ne (pc1 := 14) (pc2 := 6) d_jdk_65_method_121_3 (by decide) (by decide) rfl (fun _ => ?_) (fun k => absurd k hc3)
  refine WP.iloadN (pc' := 15) d_jdk_65_method_121_14 rfl rfl ?_
  refine WP.newPI (ty := .byte) (n := m) (cap := 4096) (cl' := 1) (sl' := 4096) (pc' := 17) d_jdk_65_method_121_15 rfl rfl rfl (wd5 hw) hp hm (by decide) rfl rfl (by decide) (by decide) ?_
  intro h1 b1 g1 E1 A1
  have ge2 : n0 ≤ b1 := by rw [g1]; exact Z0
  have sz3 : h0.size ≤ b1 := by rw [g1]; exact K0.1
  have ne4 : a ≠ b1 := by rw [g1]; exact Nat.ne_of_lt A0.lt
  have V5 := A0.ext E1
  have K6 := K0.ext E1
  have Z7 : n0 ≤ h1.size := Nat.le_trans Z0 E1.1
  refine WP.astoreN (pc' := 18) d_jdk_65_method_121_17 rfl rfl (Ls' := #[.val (.ref a), .val (.int p), .val (.ref b1)]) rfl ?_
  refine WP.aloadN (pc' := 19) d_jdk_65_method_121_18 rfl rfl rfl ?_
  refine WP.iconst (pc' := 20) d_jdk_65_method_121_19 rfl (z := 0) rfl ?_
  refine WP.aloadN (pc' := 21) d_jdk_65_method_121_20 rfl rfl rfl ?_
  refine WP.iconst (pc' := 22) d_jdk_65_method_121_21 rfl (z := 0) rfl ?_
  refine WP.aloadN (pc' := 23) d_jdk_65_method_121_22 rfl rfl rfl ?_
  refine WP.arraylengthI (z := (n : Nat).toInt32) (pc' := 24) d_jdk_65_method_121_23 rfl V5 rfl ?_
  refine WP.iloadN (pc' := 25) d_jdk_65_method_121_24 rfl rfl ?_
  refine WP.callS (argsL := [(.int (n : Nat).toInt32), (.int p)]) (rest := [(.int (0 : Int32)), (.ref b1), (.int (0 : Int32)), (.ref a)]) (wd := 4) (cl' := 1) (sl' := 4096) (pc' := 28) d_jdk_65_method_121_25 rfl (wd49 hw) (wd50 hw) (wd39 hw) (wd51 hw) (by decide) (m_minI hw (n : Nat).toInt32 p h1 n0) pd_0 rfl rfl rfl (Nat.le_of_eq rfl) (by decide) (by decide) rfl rfl (by decide) (by decide) ?_
  rintro v hh8 ⟨rfl, he8⟩
  rw [he8]
  refine WP.castS (st' := [(.int (minI (n : Nat).toInt32 p)), (.int (0 : Int32)), (.ref b1), (.int (0 : Int32)), (.ref a)]) rfl ?_
  refine WP.arraycopy (wd := 0) (sp := 0) (dp := 0) (nn := n) (pc' := 31) d_jdk_65_method_121_28 rfl (wd52 hw) (wd55 hw) (wd53 hw) (wd54 hw) V5 A1 rfl rfl rfl (by rw [minI_v, natI (by omega), hp]; omega) (by omega) (by omega) ge2 rfl (by decide) (Nat.le_of_eq rfl) (by decide) ?_
  intro h9 K9 A9
  have V10 := V5.keep K9 (ninS ne4 nin0)
  have K11 := K6.trans K9 (allS (Or.inr sz3) all0)
  have Z12 : n0 ≤ h9.size := Nat.le_trans Z7 K9.1
  refine WP.aloadN (pc' := 32) d_jdk_65_method_121_31 rfl rfl rfl ?_
  refine WP.aret d_jdk_65_method_121_32 rfl rfl rfl (by decide) (by decide) ⟨_, rfl, K11, ge2, sz3, (A9).congr fun i hi => if q : i < n then (by unfold blit; rw [if_pos ⟨by omega, by omega⟩, if_pos q]; congr 1; omega) else (by unfold blit; rw [if_neg (by omega), if_neg q])⟩
theorem d_prog_24_method_2_0 : decode prog_24_method_2_code 0 = .ok (.aload 5, 2) := by decide +kernel
theorem d_prog_24_method_2_2 : decode prog_24_method_2_code 2 = .ok (.getstatic 22, 3) := by decide +kernel
theorem wd27 {Z : State} {a0 : Array Value} (hw : ∀ d ∈ tables_1, d.before a0 Z = true) : (Jvm.Cond.fieldLink "com/example/tallyfold/tallyfold/EntryLines" (22 : Nat) "com/example/tallyfold/tallyfold/Entry$Kind" "INCOME" "Lcom/example/tallyfold/tallyfold/Entry$Kind;").before a0 Z = true := hw _ (List.mem_of_getElem? (i := 27) rfl)
theorem d_prog_24_method_2_5 : decode prog_24_method_2_code 5 = .ok (.if_acmp .ne 10, 3) := by decide +kernel
theorem d_prog_24_method_2_15 : decode prog_24_method_2_code 15 = .ok (.aload_n 0, 1) := by decide +kernel
theorem d_prog_24_method_2_16 : decode prog_24_method_2_code 16 = .ok (.getfield 32, 3) := by decide +kernel
theorem wd29 {Z : State} {a0 : Array Value} (hw : ∀ d ∈ tables_1, d.before a0 Z = true) : (Jvm.Cond.fieldLink "com/example/tallyfold/tallyfold/EntryLines" (32 : Nat) "com/example/tallyfold/tallyfold/EntryLines" "expenses" "J").before a0 Z = true := hw _ (List.mem_of_getElem? (i := 29) rfl)
theorem d_prog_24_method_2_19 : decode prog_24_method_2_code 19 = .ok (.lstore 8, 2) := by decide +kernel
theorem d_prog_24_method_2_21 : decode prog_24_method_2_code 21 = .ok (.iload 4, 2) := by decide +kernel
theorem d_prog_24_method_2_23 : decode prog_24_method_2_code 23 = .ok (.iload_n 3, 1) := by decide +kernel
theorem d_prog_24_method_2_24 : decode prog_24_method_2_code 24 = .ok (.isub, 1) := by decide +kernel
theorem d_prog_24_method_2_25 : decode prog_24_method_2_code 25 = .ok (.istore 10, 2) := by decide +kernel
theorem d_prog_24_method_2_27 : decode prog_24_method_2_code 27 = .ok (.lload 6, 2) := by decide +kernel
theorem d_prog_24_method_2_29 : decode prog_24_method_2_code 29 = .ok (.ldc2_w 37, 3) := by decide +kernel
theorem wd31 {Z : State} {a0 : Array Value} (hw : ∀ d ∈ tables_1, d.before a0 Z = true) : (Jvm.Cond.constantLong "com/example/tallyfold/tallyfold/EntryLines" (37 : Nat) (9223372036854775807 : Int64)).before a0 Z = true := hw _ (List.mem_of_getElem? (i := 31) rfl)
theorem d_prog_24_method_2_32 : decode prog_24_method_2_code 32 = .ok (.lload 8, 2) := by decide +kernel
theorem d_prog_24_method_2_34 : decode prog_24_method_2_code 34 = .ok (.lsub, 1) := by decide +kernel
theorem d_prog_24_method_2_35 : decode prog_24_method_2_code 35 = .ok (.lcmp, 1) := by decide +kernel
theorem d_prog_24_method_2_36 : decode prog_24_method_2_code 36 = .ok (.ifCond .gt 15, 3) := by decide +kernel
theorem d_prog_24_method_2_39 : decode prog_24_method_2_code 39 = .ok (.iload 10, 2) := by decide +kernel
theorem d_prog_24_method_2_41 : decode prog_24_method_2_code 41 = .ok (.ldc 39, 2) := by decide +kernel
theorem wd32 {Z : State} {a0 : Array Value} (hw : ∀ d ∈ tables_1, d.before a0 Z = true) : (Jvm.Cond.constant "com/example/tallyfold/tallyfold/EntryLines" (39 : Nat) (2147483631 : Int32)).before a0 Z = true := hw _ (List.mem_of_getElem? (i := 32) rfl)
theorem d_prog_24_method_2_43 : decode prog_24_method_2_code 43 = .ok (.aload_n 0, 1) := by decide +kernel
theorem d_prog_24_method_2_44 : decode prog_24_method_2_code 44 = .ok (.getfield 40, 3) := by decide +kernel
theorem wd33 {Z : State} {a0 : Array Value} (hw : ∀ d ∈ tables_1, d.before a0 Z = true) : (Jvm.Cond.fieldLink "com/example/tallyfold/tallyfold/EntryLines" (40 : Nat) "com/example/tallyfold/tallyfold/EntryLines" "used" "I").before a0 Z = true := hw _ (List.mem_of_getElem? (i := 33) rfl)
theorem d_prog_24_method_2_47 : decode prog_24_method_2_code 47 = .ok (.isub, 1) := by decide +kernel
theorem d_prog_24_method_2_48 : decode prog_24_method_2_code 48 = .ok (.if_icmp .le 5, 3) := by decide +kernel
theorem d_prog_24_method_2_53 : decode prog_24_method_2_code 53 = .ok (.aload_n 0, 1) := by decide +kernel
theorem d_prog_24_method_2_54 : decode prog_24_method_2_code 54 = .ok (.getfield 40, 3) := by decide +kernel
theorem d_prog_24_method_2_57 : decode prog_24_method_2_code 57 = .ok (.iload 10, 2) := by decide +kernel
theorem d_prog_24_method_2_59 : decode prog_24_method_2_code 59 = .ok (.iadd, 1) := by decide +kernel
theorem d_prog_24_method_2_60 : decode prog_24_method_2_code 60 = .ok (.aload_n 0, 1) := by decide +kernel
theorem d_prog_24_method_2_61 : decode prog_24_method_2_code 61 = .ok (.getfield 9, 3) := by decide +kernel
theorem d_prog_24_method_2_64 : decode prog_24_method_2_code 64 = .ok (.arraylength, 1) := by decide +kernel
theorem d_prog_24_method_2_65 : decode prog_24_method_2_code 65 = .ok (.if_icmp .le 52, 3) := by decide +kernel
theorem d_prog_24_method_2_68 : decode prog_24_method_2_code 68 = .ok (.aload_n 0, 1) := by decide +kernel
theorem d_prog_24_method_2_69 : decode prog_24_method_2_code 69 = .ok (.getfield 40, 3) := by decide +kernel
theorem d_prog_24_method_2_72 : decode prog_24_method_2_code 72 = .ok (.iload 10, 2) := by decide +kernel
theorem d_prog_24_method_2_74 : decode prog_24_method_2_code 74 = .ok (.iadd, 1) := by decide +kernel
theorem d_prog_24_method_2_75 : decode prog_24_method_2_code 75 = .ok (.i2l, 1) := by decide +kernel
theorem d_prog_24_method_2_76 : decode prog_24_method_2_code 76 = .ok (.ldc2_w 44, 3) := by decide +kernel
theorem wd35 {Z : State} {a0 : Array Value} (hw : ∀ d ∈ tables_1, d.before a0 Z = true) : (Jvm.Cond.constantLong "com/example/tallyfold/tallyfold/EntryLines" (44 : Nat) (2 : Int64)).before a0 Z = true := hw _ (List.mem_of_getElem? (i := 35) rfl)
theorem d_prog_24_method_2_79 : decode prog_24_method_2_code 79 = .ok (.aload_n 0, 1) := by decide +kernel
theorem d_prog_24_method_2_80 : decode prog_24_method_2_code 80 = .ok (.getfield 9, 3) := by decide +kernel
theorem d_prog_24_method_2_83 : decode prog_24_method_2_code 83 = .ok (.arraylength, 1) := by decide +kernel
theorem d_prog_24_method_2_84 : decode prog_24_method_2_code 84 = .ok (.i2l, 1) := by decide +kernel
theorem d_prog_24_method_2_85 : decode prog_24_method_2_code 85 = .ok (.lmul, 1) := by decide +kernel
theorem d_prog_24_method_2_86 : decode prog_24_method_2_code 86 = .ok (.ldc2_w 46, 3) := by decide +kernel
theorem wd36 {Z : State} {a0 : Array Value} (hw : ∀ d ∈ tables_1, d.before a0 Z = true) : (Jvm.Cond.constantLong "com/example/tallyfold/tallyfold/EntryLines" (46 : Nat) (4096 : Int64)).before a0 Z = true := hw _ (List.mem_of_getElem? (i := 36) rfl)
theorem d_prog_24_method_2_89 : decode prog_24_method_2_code 89 = .ok (.invokestatic 48, 3) := by decide +kernel
theorem wd37 {Z : State} {a0 : Array Value} (hw : ∀ d ∈ tables_1, d.before a0 Z = true) : (Jvm.Cond.methodLink "com/example/tallyfold/tallyfold/EntryLines" (48 : Nat) ({ cls := "java/lang/Math", name := "max", desc := "(JJ)J" } : Jvm.MethodName)).before a0 Z = true := hw _ (List.mem_of_getElem? (i := 37) rfl)
theorem wd40 {Z : State} {a0 : Array Value} (hw : ∀ d ∈ tables_1, d.before a0 Z = true) : (Jvm.Cond.code ({ cls := "java/lang/Math", name := "max", desc := "(JJ)J" } : Jvm.MethodName) jdk_29_method_66_code (4 : Nat) (Option.some Jvm.ClassFile.FieldType.long)).before a0 Z = true := hw _ (List.mem_of_getElem? (i := 40) rfl)
theorem pd_1 : parseMethodDescriptor "(JJ)J" = some ⟨[.long, .long], some .long⟩ := by decide +kernel
theorem wd38 {Z : State} {a0 : Array Value} (hw : ∀ d ∈ tables_1, d.before a0 Z = true) : (Jvm.Cond.static ({ cls := "java/lang/Math", name := "max", desc := "(JJ)J" } : Jvm.MethodName)).before a0 Z = true := hw _ (List.mem_of_getElem? (i := 38) rfl)
theorem d_prog_24_method_2_92 : decode prog_24_method_2_code 92 = .ok (.invokestatic 48, 3) := by decide +kernel
theorem d_prog_24_method_2_95 : decode prog_24_method_2_code 95 = .ok (.lstore 11, 2) := by decide +kernel
theorem d_prog_24_method_2_97 : decode prog_24_method_2_code 97 = .ok (.aload_n 0, 1) := by decide +kernel
theorem d_prog_24_method_2_98 : decode prog_24_method_2_code 98 = .ok (.aload_n 0, 1) := by decide +kernel
theorem d_prog_24_method_2_99 : decode prog_24_method_2_code 99 = .ok (.getfield 9, 3) := by decide +kernel
theorem d_prog_24_method_2_102 : decode prog_24_method_2_code 102 = .ok (.ldc2_w 54, 3) := by decide +kernel
theorem wd41 {Z : State} {a0 : Array Value} (hw : ∀ d ∈ tables_1, d.before a0 Z = true) : (Jvm.Cond.constantLong "com/example/tallyfold/tallyfold/EntryLines" (54 : Nat) (2147483631 : Int64)).before a0 Z = true := hw _ (List.mem_of_getElem? (i := 41) rfl)
theorem d_prog_24_method_2_105 : decode prog_24_method_2_code 105 = .ok (.lload 11, 2) := by decide +kernel
theorem d_prog_24_method_2_107 : decode prog_24_method_2_code 107 = .ok (.invokestatic 56, 3) := by decide +kernel
theorem wd42 {Z : State} {a0 : Array Value} (hw : ∀ d ∈ tables_1, d.before a0 Z = true) : (Jvm.Cond.methodLink "com/example/tallyfold/tallyfold/EntryLines" (56 : Nat) ({ cls := "java/lang/Math", name := "min", desc := "(JJ)J" } : Jvm.MethodName)).before a0 Z = true := hw _ (List.mem_of_getElem? (i := 42) rfl)
theorem wd44 {Z : State} {a0 : Array Value} (hw : ∀ d ∈ tables_1, d.before a0 Z = true) : (Jvm.Cond.code ({ cls := "java/lang/Math", name := "min", desc := "(JJ)J" } : Jvm.MethodName) jdk_29_method_70_code (4 : Nat) (Option.some Jvm.ClassFile.FieldType.long)).before a0 Z = true := hw _ (List.mem_of_getElem? (i := 44) rfl)
theorem wd43 {Z : State} {a0 : Array Value} (hw : ∀ d ∈ tables_1, d.before a0 Z = true) : (Jvm.Cond.static ({ cls := "java/lang/Math", name := "min", desc := "(JJ)J" } : Jvm.MethodName)).before a0 Z = true := hw _ (List.mem_of_getElem? (i := 43) rfl)
theorem d_prog_24_method_2_110 : decode prog_24_method_2_code 110 = .ok (.l2i, 1) := by decide +kernel
theorem d_prog_24_method_2_111 : decode prog_24_method_2_code 111 = .ok (.invokestatic 59, 3) := by decide +kernel
theorem wd45 {Z : State} {a0 : Array Value} (hw : ∀ d ∈ tables_1, d.before a0 Z = true) : (Jvm.Cond.methodLink "com/example/tallyfold/tallyfold/EntryLines" (59 : Nat) ({ cls := "java/util/Arrays", name := "copyOf", desc := "([BI)[B" } : Jvm.MethodName)).before a0 Z = true := hw _ (List.mem_of_getElem? (i := 45) rfl)
theorem wd48 {Z : State} {a0 : Array Value} (hw : ∀ d ∈ tables_1, d.before a0 Z = true) : (Jvm.Cond.code ({ cls := "java/util/Arrays", name := "copyOf", desc := "([BI)[B" } : Jvm.MethodName) jdk_65_method_121_code (3 : Nat) (Option.some (Jvm.ClassFile.FieldType.array Jvm.ClassFile.FieldType.byte))).before a0 Z = true := hw _ (List.mem_of_getElem? (i := 48) rfl)
theorem wd47 {Z : State} {a0 : Array Value} (hw : ∀ d ∈ tables_1, d.before a0 Z = true) : (Jvm.Cond.initialized "java/util/Arrays").before a0 Z = true := hw _ (List.mem_of_getElem? (i := 47) rfl)
theorem pd_2 : parseMethodDescriptor "([BI)[B" = some ⟨[(.array .byte), .int], some (.array .byte)⟩ := by decide +kernel
theorem wd46 {Z : State} {a0 : Array Value} (hw : ∀ d ∈ tables_1, d.before a0 Z = true) : (Jvm.Cond.static ({ cls := "java/util/Arrays", name := "copyOf", desc := "([BI)[B" } : Jvm.MethodName)).before a0 Z = true := hw _ (List.mem_of_getElem? (i := 46) rfl)
theorem d_prog_24_method_2_114 : decode prog_24_method_2_code 114 = .ok (.putfield 9, 3) := by decide +kernel
theorem d_prog_24_method_2_117 : decode prog_24_method_2_code 117 = .ok (.iload_n 1, 1) := by decide +kernel
theorem d_prog_24_method_2_118 : decode prog_24_method_2_code 118 = .ok (.aload_n 0, 1) := by decide +kernel
theorem d_prog_24_method_2_119 : decode prog_24_method_2_code 119 = .ok (.getfield 19, 3) := by decide +kernel
theorem d_prog_24_method_2_122 : decode prog_24_method_2_code 122 = .ok (.arraylength, 1) := by decide +kernel
theorem d_prog_24_method_2_123 : decode prog_24_method_2_code 123 = .ok (.if_icmp .le 47, 3) := by decide +kernel
theorem d_prog_24_method_2_126 : decode prog_24_method_2_code 126 = .ok (.iload_n 1, 1) := by decide +kernel
theorem d_prog_24_method_2_127 : decode prog_24_method_2_code 127 = .ok (.iconst 2, 1) := by decide +kernel
theorem d_prog_24_method_2_128 : decode prog_24_method_2_code 128 = .ok (.aload_n 0, 1) := by decide +kernel
theorem d_prog_24_method_2_129 : decode prog_24_method_2_code 129 = .ok (.getfield 19, 3) := by decide +kernel
theorem d_prog_24_method_2_132 : decode prog_24_method_2_code 132 = .ok (.arraylength, 1) := by decide +kernel
theorem d_prog_24_method_2_133 : decode prog_24_method_2_code 133 = .ok (.imul, 1) := by decide +kernel
theorem d_prog_24_method_2_134 : decode prog_24_method_2_code 134 = .ok (.bipush 16, 2) := by decide +kernel
theorem d_prog_24_method_2_136 : decode prog_24_method_2_code 136 = .ok (.invokestatic 65, 3) := by decide +kernel
theorem wd56 {Z : State} {a0 : Array Value} (hw : ∀ d ∈ tables_1, d.before a0 Z = true) : (Jvm.Cond.methodLink "com/example/tallyfold/tallyfold/EntryLines" (65 : Nat) ({ cls := "java/lang/Math", name := "max", desc := "(II)I" } : Jvm.MethodName)).before a0 Z = true := hw _ (List.mem_of_getElem? (i := 56) rfl)
theorem wd58 {Z : State} {a0 : Array Value} (hw : ∀ d ∈ tables_1, d.before a0 Z = true) : (Jvm.Cond.code ({ cls := "java/lang/Math", name := "max", desc := "(II)I" } : Jvm.MethodName) jdk_29_method_65_code (2 : Nat) (Option.some Jvm.ClassFile.FieldType.int)).before a0 Z = true := hw _ (List.mem_of_getElem? (i := 58) rfl)
theorem wd57 {Z : State} {a0 : Array Value} (hw : ∀ d ∈ tables_1, d.before a0 Z = true) : (Jvm.Cond.static ({ cls := "java/lang/Math", name := "max", desc := "(II)I" } : Jvm.MethodName)).before a0 Z = true := hw _ (List.mem_of_getElem? (i := 57) rfl)
theorem d_prog_24_method_2_139 : decode prog_24_method_2_code 139 = .ok (.invokestatic 65, 3) := by decide +kernel
theorem d_prog_24_method_2_142 : decode prog_24_method_2_code 142 = .ok (.istore 11, 2) := by decide +kernel
theorem d_prog_24_method_2_144 : decode prog_24_method_2_code 144 = .ok (.aload_n 0, 1) := by decide +kernel
theorem d_prog_24_method_2_145 : decode prog_24_method_2_code 145 = .ok (.aload_n 0, 1) := by decide +kernel
theorem d_prog_24_method_2_146 : decode prog_24_method_2_code 146 = .ok (.getfield 15, 3) := by decide +kernel
theorem d_prog_24_method_2_149 : decode prog_24_method_2_code 149 = .ok (.iload 11, 2) := by decide +kernel
theorem d_prog_24_method_2_151 : decode prog_24_method_2_code 151 = .ok (.invokestatic 68, 3) := by decide +kernel
theorem wd59 {Z : State} {a0 : Array Value} (hw : ∀ d ∈ tables_1, d.before a0 Z = true) : (Jvm.Cond.methodLink "com/example/tallyfold/tallyfold/EntryLines" (68 : Nat) ({ cls := "java/util/Arrays", name := "copyOf", desc := "([II)[I" } : Jvm.MethodName)).before a0 Z = true := hw _ (List.mem_of_getElem? (i := 59) rfl)
theorem wd61 {Z : State} {a0 : Array Value} (hw : ∀ d ∈ tables_1, d.before a0 Z = true) : (Jvm.Cond.code ({ cls := "java/util/Arrays", name := "copyOf", desc := "([II)[I" } : Jvm.MethodName) jdk_65_method_123_code (3 : Nat) (Option.some (Jvm.ClassFile.FieldType.array Jvm.ClassFile.FieldType.int))).before a0 Z = true := hw _ (List.mem_of_getElem? (i := 61) rfl)
theorem pd_3 : parseMethodDescriptor "([II)[I" = some ⟨[(.array .int), .int], some (.array .int)⟩ := by decide +kernel
theorem wd60 {Z : State} {a0 : Array Value} (hw : ∀ d ∈ tables_1, d.before a0 Z = true) : (Jvm.Cond.static ({ cls := "java/util/Arrays", name := "copyOf", desc := "([II)[I" } : Jvm.MethodName)).before a0 Z = true := hw _ (List.mem_of_getElem? (i := 60) rfl)
theorem d_prog_24_method_2_154 : decode prog_24_method_2_code 154 = .ok (.putfield 15, 3) := by decide +kernel
theorem d_prog_24_method_2_157 : decode prog_24_method_2_code 157 = .ok (.aload_n 0, 1) := by decide +kernel
theorem d_prog_24_method_2_158 : decode prog_24_method_2_code 158 = .ok (.aload_n 0, 1) := by decide +kernel
theorem d_prog_24_method_2_159 : decode prog_24_method_2_code 159 = .ok (.getfield 19, 3) := by decide +kernel
theorem d_prog_24_method_2_162 : decode prog_24_method_2_code 162 = .ok (.iload 11, 2) := by decide +kernel
theorem d_prog_24_method_2_164 : decode prog_24_method_2_code 164 = .ok (.invokestatic 68, 3) := by decide +kernel
theorem d_prog_24_method_2_167 : decode prog_24_method_2_code 167 = .ok (.putfield 19, 3) := by decide +kernel
theorem d_prog_24_method_2_170 : decode prog_24_method_2_code 170 = .ok (.aload_n 2, 1) := by decide +kernel
theorem d_prog_24_method_2_171 : decode prog_24_method_2_code 171 = .ok (.iload_n 3, 1) := by decide +kernel
theorem d_prog_24_method_2_172 : decode prog_24_method_2_code 172 = .ok (.aload_n 0, 1) := by decide +kernel
theorem d_prog_24_method_2_173 : decode prog_24_method_2_code 173 = .ok (.getfield 9, 3) := by decide +kernel
theorem d_prog_24_method_2_176 : decode prog_24_method_2_code 176 = .ok (.aload_n 0, 1) := by decide +kernel
theorem d_prog_24_method_2_177 : decode prog_24_method_2_code 177 = .ok (.getfield 40, 3) := by decide +kernel
theorem d_prog_24_method_2_180 : decode prog_24_method_2_code 180 = .ok (.iload 10, 2) := by decide +kernel
theorem d_prog_24_method_2_182 : decode prog_24_method_2_code 182 = .ok (.invokestatic 71, 3) := by decide +kernel
theorem wd62 {Z : State} {a0 : Array Value} (hw : ∀ d ∈ tables_1, d.before a0 Z = true) : (Jvm.Cond.methodLink "com/example/tallyfold/tallyfold/EntryLines" (71 : Nat) ({ cls := "java/lang/System", name := "arraycopy", desc := "(Ljava/lang/Object;ILjava/lang/Object;II)V" } : Jvm.MethodName)).before a0 Z = true := hw _ (List.mem_of_getElem? (i := 62) rfl)
theorem d_prog_24_method_2_185 : decode prog_24_method_2_code 185 = .ok (.aload_n 0, 1) := by decide +kernel
theorem d_prog_24_method_2_186 : decode prog_24_method_2_code 186 = .ok (.getfield 15, 3) := by decide +kernel
theorem d_prog_24_method_2_189 : decode prog_24_method_2_code 189 = .ok (.iload_n 1, 1) := by decide +kernel
theorem d_prog_24_method_2_190 : decode prog_24_method_2_code 190 = .ok (.iconst 1, 1) := by decide +kernel
theorem d_prog_24_method_2_191 : decode prog_24_method_2_code 191 = .ok (.isub, 1) := by decide +kernel
theorem d_prog_24_method_2_192 : decode prog_24_method_2_code 192 = .ok (.aload_n 0, 1) := by decide +kernel
theorem d_prog_24_method_2_193 : decode prog_24_method_2_code 193 = .ok (.getfield 40, 3) := by decide +kernel
theorem d_prog_24_method_2_196 : decode prog_24_method_2_code 196 = .ok (.iastore, 1) := by decide +kernel
theorem d_prog_24_method_2_197 : decode prog_24_method_2_code 197 = .ok (.aload_n 0, 1) := by decide +kernel
theorem d_prog_24_method_2_198 : decode prog_24_method_2_code 198 = .ok (.dup, 1) := by decide +kernel
theorem d_prog_24_method_2_199 : decode prog_24_method_2_code 199 = .ok (.getfield 40, 3) := by decide +kernel
theorem d_prog_24_method_2_202 : decode prog_24_method_2_code 202 = .ok (.iload 10, 2) := by decide +kernel
theorem d_prog_24_method_2_204 : decode prog_24_method_2_code 204 = .ok (.iadd, 1) := by decide +kernel
theorem d_prog_24_method_2_205 : decode prog_24_method_2_code 205 = .ok (.putfield 40, 3) := by decide +kernel
theorem d_prog_24_method_2_208 : decode prog_24_method_2_code 208 = .ok (.aload_n 0, 1) := by decide +kernel
theorem d_prog_24_method_2_209 : decode prog_24_method_2_code 209 = .ok (.getfield 19, 3) := by decide +kernel
theorem d_prog_24_method_2_212 : decode prog_24_method_2_code 212 = .ok (.iload_n 1, 1) := by decide +kernel
theorem d_prog_24_method_2_213 : decode prog_24_method_2_code 213 = .ok (.iconst 1, 1) := by decide +kernel
theorem d_prog_24_method_2_214 : decode prog_24_method_2_code 214 = .ok (.isub, 1) := by decide +kernel
theorem d_prog_24_method_2_215 : decode prog_24_method_2_code 215 = .ok (.aload_n 0, 1) := by decide +kernel
theorem d_prog_24_method_2_216 : decode prog_24_method_2_code 216 = .ok (.getfield 40, 3) := by decide +kernel
theorem d_prog_24_method_2_219 : decode prog_24_method_2_code 219 = .ok (.iastore, 1) := by decide +kernel
theorem d_prog_24_method_2_220 : decode prog_24_method_2_code 220 = .ok (.aload 5, 2) := by decide +kernel
theorem d_prog_24_method_2_222 : decode prog_24_method_2_code 222 = .ok (.getstatic 22, 3) := by decide +kernel
theorem d_prog_24_method_2_225 : decode prog_24_method_2_code 225 = .ok (.if_acmp .ne 17, 3) := by decide +kernel
theorem d_prog_24_method_2_242 : decode prog_24_method_2_code 242 = .ok (.aload_n 0, 1) := by decide +kernel
theorem d_prog_24_method_2_243 : decode prog_24_method_2_code 243 = .ok (.dup, 1) := by decide +kernel
theorem d_prog_24_method_2_244 : decode prog_24_method_2_code 244 = .ok (.getfield 32, 3) := by decide +kernel
theorem d_prog_24_method_2_247 : decode prog_24_method_2_code 247 = .ok (.lload 6, 2) := by decide +kernel
theorem d_prog_24_method_2_249 : decode prog_24_method_2_code 249 = .ok (.ladd, 1) := by decide +kernel
theorem d_prog_24_method_2_250 : decode prog_24_method_2_code 250 = .ok (.putfield 32, 3) := by decide +kernel
theorem d_prog_24_method_2_253 : decode prog_24_method_2_code 253 = .ok (.aload_n 0, 1) := by decide +kernel
theorem d_prog_24_method_2_254 : decode prog_24_method_2_code 254 = .ok (.dup, 1) := by decide +kernel
theorem d_prog_24_method_2_255 : decode prog_24_method_2_code 255 = .ok (.getfield 77, 3) := by decide +kernel
theorem wd63 {Z : State} {a0 : Array Value} (hw : ∀ d ∈ tables_1, d.before a0 Z = true) : (Jvm.Cond.fieldLink "com/example/tallyfold/tallyfold/EntryLines" (77 : Nat) "com/example/tallyfold/tallyfold/EntryLines" "count" "I").before a0 Z = true := hw _ (List.mem_of_getElem? (i := 63) rfl)
theorem d_prog_24_method_2_258 : decode prog_24_method_2_code 258 = .ok (.iconst 1, 1) := by decide +kernel
theorem d_prog_24_method_2_259 : decode prog_24_method_2_code 259 = .ok (.iadd, 1) := by decide +kernel
theorem d_prog_24_method_2_260 : decode prog_24_method_2_code 260 = .ok (.putfield 77, 3) := by decide +kernel
theorem d_prog_24_method_2_263 : decode prog_24_method_2_code 263 = .ok (.iconst 1, 1) := by decide +kernel
theorem d_prog_24_method_2_264 : decode prog_24_method_2_code 264 = .ok (.ireturn, 1) := by decide +kernel
theorem d_prog_24_method_2_8 : decode prog_24_method_2_code 8 = .ok (.aload_n 0, 1) := by decide +kernel
theorem d_prog_24_method_2_9 : decode prog_24_method_2_code 9 = .ok (.getfield 28, 3) := by decide +kernel
theorem wd78 {Z : State} {a0 : Array Value} (hw : ∀ d ∈ tables_1, d.before a0 Z = true) : (Jvm.Cond.fieldLink "com/example/tallyfold/tallyfold/EntryLines" (28 : Nat) "com/example/tallyfold/tallyfold/EntryLines" "income" "J").before a0 Z = true := hw _ (List.mem_of_getElem? (i := 78) rfl)
theorem d_prog_24_method_2_12 : decode prog_24_method_2_code 12 = .ok (.goto 7, 3) := by decide +kernel
theorem d_prog_24_method_2_228 : decode prog_24_method_2_code 228 = .ok (.aload_n 0, 1) := by decide +kernel
theorem d_prog_24_method_2_229 : decode prog_24_method_2_code 229 = .ok (.dup, 1) := by decide +kernel
theorem d_prog_24_method_2_230 : decode prog_24_method_2_code 230 = .ok (.getfield 28, 3) := by decide +kernel
theorem d_prog_24_method_2_233 : decode prog_24_method_2_code 233 = .ok (.lload 6, 2) := by decide +kernel
theorem d_prog_24_method_2_235 : decode prog_24_method_2_code 235 = .ok (.ladd, 1) := by decide +kernel
theorem d_prog_24_method_2_236 : decode prog_24_method_2_code 236 = .ok (.putfield 28, 3) := by decide +kernel
theorem d_prog_24_method_2_239 : decode prog_24_method_2_code 239 = .ok (.goto 14, 3) := by decide +kernel
set_option maxRecDepth 65536 in
set_option maxHeartbeats 40000000 in
theorem m_keep1 {Z : State} {a0 : Array Value} (hw : ∀ d ∈ tables_1, d.before a0 Z = true) (a : Addr) (p : Int32) (ln : Addr) (pe : Int32) (k : Addr) (u : Int64) (h0 : Heap) (n0 : Nat) (bb sb eb : Addr) (us lo ct : Int32) (inc exs : Int64) (nl : Nat) (E : Nat → Int32) (R0 : Rep Z n0 h0 a bb sb eb ln us lo ct inc exs 0 0 nl E) (ki : Addr) (S_INC : Sta Z Z.heap "com/example/tallyfold/tallyfold/Entry$Kind" "INCOME" "Lcom/example/tallyfold/tallyfold/Entry$Kind;" (.ref ki)) (N U len : Nat) (hp : p.toInt = (N : Int)) (hU : us.toInt = (U : Int)) (hl : pe.toInt = (len : Int)) (hN1 : 1 ≤ N) (hN2 : N ≤ 64) (hlen : 1 ≤ len) (hlen2 : len ≤ nl) (hlen3 : len ≤ 10) (hU2 : U ≤ 100) (S : Int) (hB : Bd S inc exs) (hu : 0 ≤ u.toInt) (h3 : S + u.toInt ≤ 4611686018427387904) : ∀ l, Does l Z (⟨"com/example/tallyfold/tallyfold/EntryLines", "keep", "(I[BIILcom/example/tallyfold/tallyfold/Entry$Kind;J)Z"⟩ : MethodName) prog_24_method_2_code 13 (some .boolean) ({ frames := 2, cells := 3, slots := 4224, locals := 33 } : Room) n0 #[(.ref a), (.int p), (.ref ln), (.int (0 : Int32)), (.int pe), (.ref k), (.long u)] h0 (fun v h => v = some (.int 1) ∧ ∃ (bb sb eb : Addr) (inc' exs' : Int64) (ne' : Nat), Rep Z n0 h a bb sb eb ln (us + pe) lo (ct + 1) inc' exs' 4096 ne' nl (updI E (N - 1) (us + pe)) ∧ Bd (S + u.toInt) inc' exs' ∧ N ≤ ne' ∧ 0 ≤ ne' ∧ ne' ≤ max N (max (2 * 0) 16)) := by
  intro l
  refine Does.of_wp (plainFor_of_name pn_0) (Ls := #[.val (.ref a), .val (.int p), .val (.ref ln), .val (.int (0 : Int32)), .val (.int pe), .val (.ref k), .val (.long u), .second, .unset, .unset, .unset, .unset, .unset]) (fun m => by first | (simp [entryFrame, mkF, argsToLocals, Value.category]; done) | rfl) ?_
  intro C
  obtain ⟨O0, ⟨E0, F_bytes, F_used, F_starts, F_ends, F_lowest, F_count, F_income, F_expenses⟩, ⟨⟨gB, B0⟩, ⟨gS, S0⟩, ⟨gE, D0, hE⟩, ⟨gL, L0⟩⟩, ⟨g_a, g_bb, g_sb, g_eb⟩, ⟨n_bb_sb, n_bb_eb, n_sb_eb, n_a_bb, n_a_sb, n_a_eb, n_ln_a, n_ln_bb, n_ln_sb, n_ln_eb⟩, hZ0⟩ := R0
  have Z0 : n0 ≤ h0.size := by have := O0.2.1; rw [O0.1] at this; exact this
  refine WP.aload (pc' := 2) d_prog_24_method_2_0 rfl rfl rfl ?_
  refine WP.getS (pc' := 5) d_prog_24_method_2_2 rfl (host := "") (Or.inl (wd27 hw)) Via.refl (S_INC.ext O0.2) ?_
  refine WP.acmp_ne (pc1 := 15) (pc2 := 8) d_prog_24_method_2_5 rfl rfl (by decide) (by decide) rfl ?_ ?_
  · intro hc5
    refine WP.aloadN (pc' := 16) d_prog_24_method_2_15 rfl rfl rfl ?_
    refine WP.getF (pc' := 19) d_prog_24_method_2_16 rfl (host := "") (Or.inl (wd29 hw)) Via.refl F_expenses ?_
    refine WP.lstore (pc' := 21) d_prog_24_method_2_19 rfl (Ls' := #[.val (.ref a), .val (.int p), .val (.ref ln), .val (.int (0 : Int32)), .val (.int pe), .val (.ref k), .val (.long u), .second, .val (.long exs), .second, .unset, .unset, .unset]) rfl ?_
    refine WP.iload (pc' := 23) d_prog_24_method_2_21 rfl rfl ?_
    refine WP.iloadN (pc' := 24) d_prog_24_method_2_23 rfl rfl ?_
    refine WP.isub (pc' := 25) d_prog_24_method_2_24 rfl ?_
    rw [sub0 pe]
    refine WP.istore (pc' := 27) d_prog_24_method_2_25 rfl (Ls' := #[.val (.ref a), .val (.int p), .val (.ref ln), .val (.int (0 : Int32)), .val (.int pe), .val (.ref k), .val (.long u), .second, .val (.long exs), .second, .val (.int pe), .unset, .unset]) rfl ?_
    refine WP.lload (pc' := 29) d_prog_24_method_2_27 rfl rfl ?_
    refine WP.ldc2J (pc' := 32) d_prog_24_method_2_29 rfl (wd31 hw) ?_
    refine WP.lload (pc' := 34) d_prog_24_method_2_32 rfl rfl ?_
    refine WP.lsub (pc' := 35) d_prog_24_method_2_34 rfl ?_
    have hc35 : ¬ ((9223372036854775807 : Int64) - exs) < u := sum_ok hB.2.2.1 hB.2.2.2 h3
    refine WP.lcmp_gt (pc' := 36) (pc1 := 51) (pc2 := 39) d_prog_24_method_2_35 rfl d_prog_24_method_2_36 (by decide) (by decide) rfl (fun k => absurd k hc35) (fun _ => ?_)
    refine WP.iload (pc' := 41) d_prog_24_method_2_39 rfl rfl ?_
    refine WP.ldcI (pc' := 43) d_prog_24_method_2_41 rfl (wd32 hw) ?_
    refine WP.aloadN (pc' := 44) d_prog_24_method_2_43 rfl rfl rfl ?_
    refine WP.getF (pc' := 47) d_prog_24_method_2_44 rfl (host := "") (Or.inl (wd33 hw)) Via.refl F_used ?_
    refine WP.isub (pc' := 48) d_prog_24_method_2_47 rfl ?_
    have hc48 : ¬ ((2147483631 : Int32) - us) < pe := room_ok hU hl (by omega) (by omega)
    refine WP.icmp_le (pc1 := 53) (pc2 := 51) d_prog_24_method_2_48 (by decide) (by decide) rfl (fun _ => ?_) (fun k => absurd k hc48)
    refine WP.aloadN (pc' := 54) d_prog_24_method_2_53 rfl rfl rfl ?_
    refine WP.getF (pc' := 57) d_prog_24_method_2_54 rfl (host := "") (Or.inl (wd33 hw)) Via.refl F_used ?_
    refine WP.iload (pc' := 59) d_prog_24_method_2_57 rfl rfl ?_
    refine WP.iadd (pc' := 60) d_prog_24_method_2_59 rfl ?_
    refine WP.aloadN (pc' := 61) d_prog_24_method_2_60 rfl rfl rfl ?_
    refine WP.getF (pc' := 64) d_prog_24_method_2_61 rfl (host := "") (Or.inl (wd15 hw)) Via.refl F_bytes ?_
    refine WP.arraylengthI (z := (0 : Int32)) (pc' := 65) d_prog_24_method_2_64 rfl B0 rfl ?_
    have hc65 : (0 : Int32) < (us + pe) := by rw [Int32.lt_iff_toInt_lt, adds hU hl (by omega), show (0 : Int32).toInt = 0 from rfl]; omega
    refine WP.icmp_le (pc1 := 117) (pc2 := 68) d_prog_24_method_2_65 (by decide) (by decide) rfl (fun k => absurd hc65 k) (fun _ => ?_)
    refine WP.aloadN (pc' := 69) d_prog_24_method_2_68 rfl rfl rfl ?_
    refine WP.getF (pc' := 72) d_prog_24_method_2_69 rfl (host := "") (Or.inl (wd33 hw)) Via.refl F_used ?_
    refine WP.iload (pc' := 74) d_prog_24_method_2_72 rfl rfl ?_
    refine WP.iadd (pc' := 75) d_prog_24_method_2_74 rfl ?_
    refine WP.i2l (pc' := 76) d_prog_24_method_2_75 rfl ?_
    refine WP.ldc2J (pc' := 79) d_prog_24_method_2_76 rfl (wd35 hw) ?_
    refine WP.aloadN (pc' := 80) d_prog_24_method_2_79 rfl rfl rfl ?_
    refine WP.getF (pc' := 83) d_prog_24_method_2_80 rfl (host := "") (Or.inl (wd15 hw)) Via.refl F_bytes ?_
    refine WP.arraylengthI (z := (0 : Int32)) (pc' := 84) d_prog_24_method_2_83 rfl B0 rfl ?_
    refine WP.i2l (pc' := 85) d_prog_24_method_2_84 rfl ?_
    refine WP.lmul (pc' := 86) d_prog_24_method_2_85 rfl ?_
    refine WP.ldc2J (pc' := 89) d_prog_24_method_2_86 rfl (wd36 hw) ?_
    refine WP.callS (argsL := [(.long ((2 : Int64) * ((0 : Int32).toInt64))), (.long (4096 : Int64))]) (rest := [(.long ((us + pe).toInt64))]) (wd := 2) (cl' := 0) (sl' := 0) (pc' := 92) d_prog_24_method_2_89 rfl (wd37 hw) (wd38 hw) (wd39 hw) (wd40 hw) (by decide) (m_maxL hw ((2 : Int64) * ((0 : Int32).toInt64)) (4096 : Int64) h0 n0) pd_1 rfl rfl rfl (Nat.le_of_eq rfl) (by decide) (by decide) rfl rfl (by decide) (by decide) ?_
    rintro v hh1 ⟨rfl, he1⟩
    rw [he1]
    refine WP.castS (st' := [(.long (maxL ((2 : Int64) * ((0 : Int32).toInt64)) (4096 : Int64))), (.long ((us + pe).toInt64))]) rfl ?_
    refine WP.callS (argsL := [(.long ((us + pe).toInt64)), (.long (maxL ((2 : Int64) * ((0 : Int32).toInt64)) (4096 : Int64)))]) (rest := []) (wd := 0) (cl' := 0) (sl' := 0) (pc' := 95) d_prog_24_method_2_92 rfl (wd37 hw) (wd38 hw) (wd39 hw) (wd40 hw) (by decide) (m_maxL hw ((us + pe).toInt64) (maxL ((2 : Int64) * ((0 : Int32).toInt64)) (4096 : Int64)) h0 n0) pd_1 rfl rfl rfl (Nat.le_of_eq rfl) (by decide) (by decide) rfl rfl (by decide) (by decide) ?_
    rintro v hh2 ⟨rfl, he2⟩
    rw [he2]
    refine WP.castS (st' := [(.long (maxL ((us + pe).toInt64) (maxL ((2 : Int64) * ((0 : Int32).toInt64)) (4096 : Int64))))]) rfl ?_
    refine WP.lstore (pc' := 97) d_prog_24_method_2_95 rfl (Ls' := #[.val (.ref a), .val (.int p), .val (.ref ln), .val (.int (0 : Int32)), .val (.int pe), .val (.ref k), .val (.long u), .second, .val (.long exs), .second, .val (.int pe), .val (.long (maxL ((us + pe).toInt64) (maxL ((2 : Int64) * ((0 : Int32).toInt64)) (4096 : Int64)))), .second]) rfl ?_
    refine WP.aloadN (pc' := 98) d_prog_24_method_2_97 rfl rfl rfl ?_
    refine WP.aloadN (pc' := 99) d_prog_24_method_2_98 rfl rfl rfl ?_
    refine WP.getF (pc' := 102) d_prog_24_method_2_99 rfl (host := "") (Or.inl (wd15 hw)) Via.refl F_bytes ?_
    refine WP.ldc2J (pc' := 105) d_prog_24_method_2_102 rfl (wd41 hw) ?_
    refine WP.lload (pc' := 107) d_prog_24_method_2_105 rfl rfl ?_
    refine WP.callS (argsL := [(.long (2147483631 : Int64)), (.long (maxL ((us + pe).toInt64) (maxL ((2 : Int64) * ((0 : Int32).toInt64)) (4096 : Int64))))]) (rest := [(.ref bb), (.ref a)]) (wd := 2) (cl' := 0) (sl' := 0) (pc' := 110) d_prog_24_method_2_107 rfl (wd42 hw) (wd43 hw) (wd39 hw) (wd44 hw) (by decide) (m_minL hw (2147483631 : Int64) (maxL ((us + pe).toInt64) (maxL ((2 : Int64) * ((0 : Int32).toInt64)) (4096 : Int64))) h0 n0) pd_1 rfl rfl rfl (Nat.le_of_eq rfl) (by decide) (by decide) rfl rfl (by decide) (by decide) ?_
    rintro v hh3 ⟨rfl, he3⟩
    rw [he3]
    refine WP.castS (st' := [(.long (minL (2147483631 : Int64) (maxL ((us + pe).toInt64) (maxL ((2 : Int64) * ((0 : Int32).toInt64)) (4096 : Int64))))), (.ref bb), (.ref a)]) rfl ?_
    refine WP.l2i (pc' := 111) d_prog_24_method_2_110 rfl ?_
    refine WP.callS (argsL := [(.ref bb), (.int ((minL (2147483631 : Int64) (maxL ((us + pe).toInt64) (maxL ((2 : Int64) * ((0 : Int32).toInt64)) (4096 : Int64)))).toInt32))]) (rest := [(.ref a)]) (wd := 1) (cl' := 1) (sl' := 4096) (pc' := 114) d_prog_24_method_2_111 rfl (wd45 hw) (wd46 hw) (wd47 hw) (wd48 hw) (by decide) (m_cpB hw bb ((minL (2147483631 : Int64) (maxL ((us + pe).toInt64) (maxL ((2 : Int64) * ((0 : Int32).toInt64)) (4096 : Int64)))).toInt32) h0 n0 Z0 gB (0) (4096) B0 (grown (by rw [adds hU hl (by omega)]; omega) (by rw [adds hU hl (by omega)]; omega)) (by omega) (by omega)) pd_2 rfl rfl rfl (Nat.le_of_eq rfl) (by decide) (by decide) rfl rfl (by decide) (by decide) ?_
    rintro v h4 ⟨c4, rfl, K4, ge4, sz4, A4⟩
    have ne5 : a ≠ c4 := Nat.ne_of_lt (Nat.lt_of_lt_of_le E0.lt sz4)
    have ne6 : bb ≠ c4 := Nat.ne_of_lt (Nat.lt_of_lt_of_le B0.lt sz4)
    have ne7 : sb ≠ c4 := Nat.ne_of_lt (Nat.lt_of_lt_of_le S0.lt sz4)
    have ne8 : eb ≠ c4 := Nat.ne_of_lt (Nat.lt_of_lt_of_le D0.lt sz4)
    have ne9 : ln ≠ c4 := Nat.ne_of_lt (Nat.lt_of_lt_of_le L0.lt sz4)
    have E10 := E0.keep K4
    have F11 := F_bytes.keep K4 nin0
    have F12 := F_used.keep K4 nin0
    have F13 := F_starts.keep K4 nin0
    have F14 := F_ends.keep K4 nin0
    have F15 := F_lowest.keep K4 nin0
    have F16 := F_count.keep K4 nin0
    have F17 := F_income.keep K4 nin0
    have F18 := F_expenses.keep K4 nin0
    have V19 := B0.keep K4 nin0
    have V20 := S0.keep K4 nin0
    have V21 := D0.keep K4 nin0
    have V22 := L0.keep K4 nin0
    have O23 := O0.keep K4 all0
    have Z24 : n0 ≤ h4.size := Nat.le_trans Z0 K4.1
    refine WP.castS (st' := [(.ref c4), (.ref a)]) rfl ?_
    refine WP.putF (pc' := 117) d_prog_24_method_2_114 rfl (host := "") (Or.inl (wd15 hw)) Via.refl F11 E10 (Or.inl (wd16 hw)) (wd7 hw) (ty := (.array .byte)) (by decide) rfl rfl g_a ?_
    intro h25 W26
    have Kw27 := Keep.of_wr W26
    have E28 := E10.keep Kw27
    have V29 := V19.keep Kw27 (ninS (Ne.symm n_a_bb) nin0)
    have V30 := V20.keep Kw27 (ninS (Ne.symm n_a_sb) nin0)
    have V31 := V21.keep Kw27 (ninS (Ne.symm n_a_eb) nin0)
    have V32 := V22.keep Kw27 (ninS n_ln_a nin0)
    have V33 := A4.keep Kw27 (ninS (Ne.symm ne5) nin0)
    have O34 := O23.keep Kw27 (allS g_a all0)
    have Z35 : n0 ≤ h25.size := Nat.le_trans Z24 Kw27.1
    have F36 := F11.same W26
    have F37 := F12.other W26 (Or.inr (slot_ne (Or.inl (wd34 hw)) (Or.inl (wd16 hw)) (by decide) (t := .int) (t' := (.array .byte)) (by decide) (by decide)))
    have F38 := F13.other W26 (Or.inr (slot_ne (Or.inl (wd19 hw)) (Or.inl (wd16 hw)) (by decide) (t := (.array .int)) (t' := (.array .byte)) (by decide) (by decide)))
    have F39 := F14.other W26 (Or.inr (slot_ne (Or.inl (wd21 hw)) (Or.inl (wd16 hw)) (by decide) (t := (.array .int)) (t' := (.array .byte)) (by decide) (by decide)))
    have F40 := F15.other W26 (Or.inr (slot_ne (Or.inl (wd76 hw)) (Or.inl (wd16 hw)) (by decide) (t := .int) (t' := (.array .byte)) (by decide) (by decide)))
    have F41 := F16.other W26 (Or.inr (slot_ne (Or.inl (wd64 hw)) (Or.inl (wd16 hw)) (by decide) (t := .int) (t' := (.array .byte)) (by decide) (by decide)))
    have F42 := F17.other W26 (Or.inr (slot_ne (Or.inl (wd79 hw)) (Or.inl (wd16 hw)) (by decide) (t := .long) (t' := (.array .byte)) (by decide) (by decide)))
    have F43 := F18.other W26 (Or.inr (slot_ne (Or.inl (wd30 hw)) (Or.inl (wd16 hw)) (by decide) (t := .long) (t' := (.array .byte)) (by decide) (by decide)))
    refine WP.iloadN (pc' := 118) d_prog_24_method_2_117 rfl rfl ?_
    refine WP.aloadN (pc' := 119) d_prog_24_method_2_118 rfl rfl rfl ?_
    refine WP.getF (pc' := 122) d_prog_24_method_2_119 rfl (host := "") (Or.inl (wd20 hw)) Via.refl F39 ?_
    refine WP.arraylengthI (z := (0 : Int32)) (pc' := 123) d_prog_24_method_2_122 rfl V31 rfl ?_
    have hc123 : (0 : Int32) < p := by rw [Int32.lt_iff_toInt_lt, hp, show (0 : Int32).toInt = 0 from rfl]; omega
    refine WP.icmp_le (pc1 := 170) (pc2 := 126) d_prog_24_method_2_123 (by decide) (by decide) rfl (fun k => absurd hc123 k) (fun _ => ?_)
    refine WP.iloadN (pc' := 127) d_prog_24_method_2_126 rfl rfl ?_
    refine WP.iconst (pc' := 128) d_prog_24_method_2_127 rfl (z := 2) rfl ?_
    refine WP.aloadN (pc' := 129) d_prog_24_method_2_128 rfl rfl rfl ?_
    refine WP.getF (pc' := 132) d_prog_24_method_2_129 rfl (host := "") (Or.inl (wd20 hw)) Via.refl F39 ?_
    refine WP.arraylengthI (z := (0 : Int32)) (pc' := 133) d_prog_24_method_2_132 rfl V31 rfl ?_
    refine WP.imul (pc' := 134) d_prog_24_method_2_133 rfl ?_
    refine WP.bipush (pc' := 136) d_prog_24_method_2_134 rfl (z := 16) rfl ?_
    refine WP.callS (argsL := [(.int ((2 : Int32) * (0 : Int32))), (.int (16 : Int32))]) (rest := [(.int p)]) (wd := 1) (cl' := 1) (sl' := 4096) (pc' := 139) d_prog_24_method_2_136 rfl (wd56 hw) (wd57 hw) (wd39 hw) (wd58 hw) (by decide) (m_maxI hw ((2 : Int32) * (0 : Int32)) (16 : Int32) h25 n0) pd_0 rfl rfl rfl (Nat.le_of_eq rfl) (by decide) (by decide) rfl rfl (by decide) (by decide) ?_
    rintro v hh44 ⟨rfl, he44⟩
    rw [he44]
    refine WP.castS (st' := [(.int (maxI ((2 : Int32) * (0 : Int32)) (16 : Int32))), (.int p)]) rfl ?_
    refine WP.callS (argsL := [(.int p), (.int (maxI ((2 : Int32) * (0 : Int32)) (16 : Int32)))]) (rest := []) (wd := 0) (cl' := 1) (sl' := 4096) (pc' := 142) d_prog_24_method_2_139 rfl (wd56 hw) (wd57 hw) (wd39 hw) (wd58 hw) (by decide) (m_maxI hw p (maxI ((2 : Int32) * (0 : Int32)) (16 : Int32)) h25 n0) pd_0 rfl rfl rfl (Nat.le_of_eq rfl) (by decide) (by decide) rfl rfl (by decide) (by decide) ?_
    rintro v hh45 ⟨rfl, he45⟩
    rw [he45]
    refine WP.castS (st' := [(.int (maxI p (maxI ((2 : Int32) * (0 : Int32)) (16 : Int32))))]) rfl ?_
    generalize ht46 : (maxI p (maxI ((2 : Int32) * (0 : Int32)) (16 : Int32))) = t46
    refine WP.istore (pc' := 144) d_prog_24_method_2_142 rfl (Ls' := #[.val (.ref a), .val (.int p), .val (.ref ln), .val (.int (0 : Int32)), .val (.int pe), .val (.ref k), .val (.long u), .second, .val (.long exs), .second, .val (.int pe), .val (.int t46), .unset]) rfl ?_
    obtain ⟨M, hM⟩ : ∃ M : Nat, M = max N (max (2 * 0) 16) := ⟨_, rfl⟩
    have hMv : t46.toInt = (M : Int) := by rw [← ht46, maxI_v, maxI_v, hp, show ((2 : Int32) * 0).toInt = 0 from rfl, show (16 : Int32).toInt = 16 from rfl]; omega
    refine WP.aloadN (pc' := 145) d_prog_24_method_2_144 rfl rfl rfl ?_
    refine WP.aloadN (pc' := 146) d_prog_24_method_2_145 rfl rfl rfl ?_
    refine WP.getF (pc' := 149) d_prog_24_method_2_146 rfl (host := "") (Or.inl (wd18 hw)) Via.refl F38 ?_
    refine WP.iload (pc' := 151) d_prog_24_method_2_149 rfl rfl ?_
    refine WP.callS (argsL := [(.ref sb), (.int t46)]) (rest := [(.ref a)]) (wd := 1) (cl' := 2) (sl' := 4160) (pc' := 154) d_prog_24_method_2_151 rfl (wd59 hw) (wd60 hw) (wd47 hw) (wd61 hw) (by decide) (m_cpI64 hw sb t46 h25 n0 Z35 gS (0) (M) V30 hMv (by rw [hM]; omega) (by omega)) pd_3 rfl rfl rfl (Nat.le_of_eq rfl) (by decide) (by decide) rfl rfl (by decide) (by decide) ?_
    rintro v h47 ⟨c47, rfl, K47, ge47, sz47, A47⟩
    have ne48 : a ≠ c47 := Nat.ne_of_lt (Nat.lt_of_lt_of_le E28.lt sz47)
    have ne49 : bb ≠ c47 := Nat.ne_of_lt (Nat.lt_of_lt_of_le V29.lt sz47)
    have ne50 : sb ≠ c47 := Nat.ne_of_lt (Nat.lt_of_lt_of_le V30.lt sz47)
    have ne51 : eb ≠ c47 := Nat.ne_of_lt (Nat.lt_of_lt_of_le V31.lt sz47)
    have ne52 : ln ≠ c47 := Nat.ne_of_lt (Nat.lt_of_lt_of_le V32.lt sz47)
    have ne53 : c4 ≠ c47 := Nat.ne_of_lt (Nat.lt_of_lt_of_le V33.lt sz47)
    have E54 := E28.keep K47
    have V55 := V29.keep K47 nin0
    have V56 := V30.keep K47 nin0
    have V57 := V31.keep K47 nin0
    have V58 := V32.keep K47 nin0
    have V59 := V33.keep K47 nin0
    have F60 := F36.keep K47 nin0
    have F61 := F37.keep K47 nin0
    have F62 := F38.keep K47 nin0
    have F63 := F39.keep K47 nin0
    have F64 := F40.keep K47 nin0
    have F65 := F41.keep K47 nin0
    have F66 := F42.keep K47 nin0
    have F67 := F43.keep K47 nin0
    have O68 := O34.keep K47 all0
    have Z69 : n0 ≤ h47.size := Nat.le_trans Z35 K47.1
    refine WP.castS (st' := [(.ref c47), (.ref a)]) rfl ?_
    refine WP.putF (pc' := 157) d_prog_24_method_2_154 rfl (host := "") (Or.inl (wd18 hw)) Via.refl F62 E54 (Or.inl (wd19 hw)) (wd7 hw) (ty := (.array .int)) (by decide) rfl rfl g_a ?_
    intro h70 W71
    have Kw72 := Keep.of_wr W71
    have E73 := E54.keep Kw72
    have V74 := V55.keep Kw72 (ninS (Ne.symm n_a_bb) nin0)
    have V75 := V56.keep Kw72 (ninS (Ne.symm n_a_sb) nin0)
    have V76 := V57.keep Kw72 (ninS (Ne.symm n_a_eb) nin0)
    have V77 := V58.keep Kw72 (ninS n_ln_a nin0)
    have V78 := V59.keep Kw72 (ninS (Ne.symm ne5) nin0)
    have V79 := A47.keep Kw72 (ninS (Ne.symm ne48) nin0)
    have O80 := O68.keep Kw72 (allS g_a all0)
    have Z81 : n0 ≤ h70.size := Nat.le_trans Z69 Kw72.1
    have F82 := F60.other W71 (Or.inr (slot_ne (Or.inl (wd16 hw)) (Or.inl (wd19 hw)) (by decide) (t := (.array .byte)) (t' := (.array .int)) (by decide) (by decide)))
    have F83 := F61.other W71 (Or.inr (slot_ne (Or.inl (wd34 hw)) (Or.inl (wd19 hw)) (by decide) (t := .int) (t' := (.array .int)) (by decide) (by decide)))
    have F84 := F62.same W71
    have F85 := F63.other W71 (Or.inr (slot_ne (Or.inl (wd21 hw)) (Or.inl (wd19 hw)) (by decide) (t := (.array .int)) (t' := (.array .int)) (by decide) (by decide)))
    have F86 := F64.other W71 (Or.inr (slot_ne (Or.inl (wd76 hw)) (Or.inl (wd19 hw)) (by decide) (t := .int) (t' := (.array .int)) (by decide) (by decide)))
    have F87 := F65.other W71 (Or.inr (slot_ne (Or.inl (wd64 hw)) (Or.inl (wd19 hw)) (by decide) (t := .int) (t' := (.array .int)) (by decide) (by decide)))
    have F88 := F66.other W71 (Or.inr (slot_ne (Or.inl (wd79 hw)) (Or.inl (wd19 hw)) (by decide) (t := .long) (t' := (.array .int)) (by decide) (by decide)))
    have F89 := F67.other W71 (Or.inr (slot_ne (Or.inl (wd30 hw)) (Or.inl (wd19 hw)) (by decide) (t := .long) (t' := (.array .int)) (by decide) (by decide)))
    refine WP.aloadN (pc' := 158) d_prog_24_method_2_157 rfl rfl rfl ?_
    refine WP.aloadN (pc' := 159) d_prog_24_method_2_158 rfl rfl rfl ?_
    refine WP.getF (pc' := 162) d_prog_24_method_2_159 rfl (host := "") (Or.inl (wd20 hw)) Via.refl F85 ?_
    refine WP.iload (pc' := 164) d_prog_24_method_2_162 rfl rfl ?_
    refine WP.callS (argsL := [(.ref eb), (.int t46)]) (rest := [(.ref a)]) (wd := 1) (cl' := 3) (sl' := 4224) (pc' := 167) d_prog_24_method_2_164 rfl (wd59 hw) (wd60 hw) (wd47 hw) (wd61 hw) (by decide) (m_cpI64 hw eb t46 h70 n0 Z81 gE (0) (M) V76 hMv (by rw [hM]; omega) (by omega)) pd_3 rfl rfl rfl (Nat.le_of_eq rfl) (by decide) (by decide) rfl rfl (by decide) (by decide) ?_
    rintro v h90 ⟨c90, rfl, K90, ge90, sz90, A90⟩
    have ne91 : a ≠ c90 := Nat.ne_of_lt (Nat.lt_of_lt_of_le E73.lt sz90)
    have ne92 : bb ≠ c90 := Nat.ne_of_lt (Nat.lt_of_lt_of_le V74.lt sz90)
    have ne93 : sb ≠ c90 := Nat.ne_of_lt (Nat.lt_of_lt_of_le V75.lt sz90)
    have ne94 : eb ≠ c90 := Nat.ne_of_lt (Nat.lt_of_lt_of_le V76.lt sz90)
    have ne95 : ln ≠ c90 := Nat.ne_of_lt (Nat.lt_of_lt_of_le V77.lt sz90)
    have ne96 : c4 ≠ c90 := Nat.ne_of_lt (Nat.lt_of_lt_of_le V78.lt sz90)
    have ne97 : c47 ≠ c90 := Nat.ne_of_lt (Nat.lt_of_lt_of_le V79.lt sz90)
    have E98 := E73.keep K90
    have V99 := V74.keep K90 nin0
    have V100 := V75.keep K90 nin0
    have V101 := V76.keep K90 nin0
    have V102 := V77.keep K90 nin0
    have V103 := V78.keep K90 nin0
    have V104 := V79.keep K90 nin0
    have F105 := F82.keep K90 nin0
    have F106 := F83.keep K90 nin0
    have F107 := F84.keep K90 nin0
    have F108 := F85.keep K90 nin0
    have F109 := F86.keep K90 nin0
    have F110 := F87.keep K90 nin0
    have F111 := F88.keep K90 nin0
    have F112 := F89.keep K90 nin0
    have O113 := O80.keep K90 all0
    have Z114 : n0 ≤ h90.size := Nat.le_trans Z81 K90.1
    refine WP.castS (st' := [(.ref c90), (.ref a)]) rfl ?_
    refine WP.putF (pc' := 170) d_prog_24_method_2_167 rfl (host := "") (Or.inl (wd20 hw)) Via.refl F108 E98 (Or.inl (wd21 hw)) (wd7 hw) (ty := (.array .int)) (by decide) rfl rfl g_a ?_
    intro h115 W116
    have Kw117 := Keep.of_wr W116
    have E118 := E98.keep Kw117
    have V119 := V99.keep Kw117 (ninS (Ne.symm n_a_bb) nin0)
    have V120 := V100.keep Kw117 (ninS (Ne.symm n_a_sb) nin0)
    have V121 := V101.keep Kw117 (ninS (Ne.symm n_a_eb) nin0)
    have V122 := V102.keep Kw117 (ninS n_ln_a nin0)
    have V123 := V103.keep Kw117 (ninS (Ne.symm ne5) nin0)
    have V124 := V104.keep Kw117 (ninS (Ne.symm ne48) nin0)
    have V125 := A90.keep Kw117 (ninS (Ne.symm ne91) nin0)
    have O126 := O113.keep Kw117 (allS g_a all0)
    have Z127 : n0 ≤ h115.size := Nat.le_trans Z114 Kw117.1
    have F128 := F105.other W116 (Or.inr (slot_ne (Or.inl (wd16 hw)) (Or.inl (wd21 hw)) (by decide) (t := (.array .byte)) (t' := (.array .int)) (by decide) (by decide)))
    have F129 := F106.other W116 (Or.inr (slot_ne (Or.inl (wd34 hw)) (Or.inl (wd21 hw)) (by decide) (t := .int) (t' := (.array .int)) (by decide) (by decide)))
    have F130 := F107.other W116 (Or.inr (slot_ne (Or.inl (wd19 hw)) (Or.inl (wd21 hw)) (by decide) (t := (.array .int)) (t' := (.array .int)) (by decide) (by decide)))
    have F131 := F108.same W116
    have F132 := F109.other W116 (Or.inr (slot_ne (Or.inl (wd76 hw)) (Or.inl (wd21 hw)) (by decide) (t := .int) (t' := (.array .int)) (by decide) (by decide)))
    have F133 := F110.other W116 (Or.inr (slot_ne (Or.inl (wd64 hw)) (Or.inl (wd21 hw)) (by decide) (t := .int) (t' := (.array .int)) (by decide) (by decide)))
    have F134 := F111.other W116 (Or.inr (slot_ne (Or.inl (wd79 hw)) (Or.inl (wd21 hw)) (by decide) (t := .long) (t' := (.array .int)) (by decide) (by decide)))
    have F135 := F112.other W116 (Or.inr (slot_ne (Or.inl (wd30 hw)) (Or.inl (wd21 hw)) (by decide) (t := .long) (t' := (.array .int)) (by decide) (by decide)))
    have lt1 : N - 1 < M := by omega
    refine WP.aloadN (pc' := 171) d_prog_24_method_2_170 rfl rfl rfl ?_
    refine WP.iloadN (pc' := 172) d_prog_24_method_2_171 rfl rfl ?_
    refine WP.aloadN (pc' := 173) d_prog_24_method_2_172 rfl rfl rfl ?_
    refine WP.getF (pc' := 176) d_prog_24_method_2_173 rfl (host := "") (Or.inl (wd15 hw)) Via.refl F128 ?_
    refine WP.aloadN (pc' := 177) d_prog_24_method_2_176 rfl rfl rfl ?_
    refine WP.getF (pc' := 180) d_prog_24_method_2_177 rfl (host := "") (Or.inl (wd33 hw)) Via.refl F129 ?_
    refine WP.iload (pc' := 182) d_prog_24_method_2_180 rfl rfl ?_
    refine WP.arraycopy (wd := 0) (sp := 0) (dp := U) (nn := len) (pc' := 185) d_prog_24_method_2_182 rfl (wd62 hw) (wd55 hw) (wd53 hw) (wd54 hw) V122 V123 rfl rfl hU hl (by omega) (by omega) ge4 rfl (by decide) (Nat.le_of_eq rfl) (by decide) ?_
    intro h136 K136 A136
    have E137 := E118.keep K136
    have V138 := V119.keep K136 (ninS ne6 nin0)
    have V139 := V120.keep K136 (ninS ne7 nin0)
    have V140 := V121.keep K136 (ninS ne8 nin0)
    have V141 := V122.keep K136 (ninS ne9 nin0)
    have V142 := V124.keep K136 (ninS (Ne.symm ne53) nin0)
    have V143 := V125.keep K136 (ninS (Ne.symm ne96) nin0)
    have F144 := F128.keep K136 (ninS ne5 nin0)
    have F145 := F129.keep K136 (ninS ne5 nin0)
    have F146 := F130.keep K136 (ninS ne5 nin0)
    have F147 := F131.keep K136 (ninS ne5 nin0)
    have F148 := F132.keep K136 (ninS ne5 nin0)
    have F149 := F133.keep K136 (ninS ne5 nin0)
    have F150 := F134.keep K136 (ninS ne5 nin0)
    have F151 := F135.keep K136 (ninS ne5 nin0)
    have O152 := O126.keep K136 (allS ge4 all0)
    have Z153 : n0 ≤ h136.size := Nat.le_trans Z127 K136.1
    refine WP.aloadN (pc' := 186) d_prog_24_method_2_185 rfl rfl rfl ?_
    refine WP.getF (pc' := 189) d_prog_24_method_2_186 rfl (host := "") (Or.inl (wd18 hw)) Via.refl F146 ?_
    refine WP.iloadN (pc' := 190) d_prog_24_method_2_189 rfl rfl ?_
    refine WP.iconst (pc' := 191) d_prog_24_method_2_190 rfl (z := 1) rfl ?_
    refine WP.isub (pc' := 192) d_prog_24_method_2_191 rfl ?_
    refine WP.aloadN (pc' := 193) d_prog_24_method_2_192 rfl rfl rfl ?_
    refine WP.getF (pc' := 196) d_prog_24_method_2_193 rfl (host := "") (Or.inl (wd33 hw)) Via.refl F145 ?_
    refine WP.iastoreI (x' := us) (N - 1) (pc' := 197) d_prog_24_method_2_196 rfl V142 (pred hp (by omega)) lt1 ge47 rfl ?_
    intro h154 K155 A156
    have E157 := E137.keep K155
    have V158 := V138.keep K155 (ninS ne49 nin0)
    have V159 := V139.keep K155 (ninS ne50 nin0)
    have V160 := V140.keep K155 (ninS ne51 nin0)
    have V161 := V141.keep K155 (ninS ne52 nin0)
    have V162 := V143.keep K155 (ninS (Ne.symm ne97) nin0)
    have F163 := F144.keep K155 (ninS ne48 nin0)
    have F164 := F145.keep K155 (ninS ne48 nin0)
    have F165 := F146.keep K155 (ninS ne48 nin0)
    have F166 := F147.keep K155 (ninS ne48 nin0)
    have F167 := F148.keep K155 (ninS ne48 nin0)
    have F168 := F149.keep K155 (ninS ne48 nin0)
    have F169 := F150.keep K155 (ninS ne48 nin0)
    have F170 := F151.keep K155 (ninS ne48 nin0)
    have V171 := A136.keep K155 (ninS ne53 nin0)
    have O172 := O152.keep K155 (allS ge47 all0)
    have Z173 : n0 ≤ h154.size := Nat.le_trans Z153 K155.1
    refine WP.aloadN (pc' := 198) d_prog_24_method_2_197 rfl rfl rfl ?_
    refine WP.dup (pc' := 199) d_prog_24_method_2_198 rfl rfl ?_
    refine WP.getF (pc' := 202) d_prog_24_method_2_199 rfl (host := "") (Or.inl (wd33 hw)) Via.refl F164 ?_
    refine WP.iload (pc' := 204) d_prog_24_method_2_202 rfl rfl ?_
    refine WP.iadd (pc' := 205) d_prog_24_method_2_204 rfl ?_
    refine WP.putF (pc' := 208) d_prog_24_method_2_205 rfl (host := "") (Or.inl (wd33 hw)) Via.refl F164 E157 (Or.inl (wd34 hw)) (wd7 hw) (ty := .int) (by decide) rfl rfl g_a ?_
    intro h174 W175
    have Kw176 := Keep.of_wr W175
    have E177 := E157.keep Kw176
    have V178 := V158.keep Kw176 (ninS (Ne.symm n_a_bb) nin0)
    have V179 := V159.keep Kw176 (ninS (Ne.symm n_a_sb) nin0)
    have V180 := V160.keep Kw176 (ninS (Ne.symm n_a_eb) nin0)
    have V181 := V161.keep Kw176 (ninS n_ln_a nin0)
    have V182 := V162.keep Kw176 (ninS (Ne.symm ne91) nin0)
    have V183 := V171.keep Kw176 (ninS (Ne.symm ne5) nin0)
    have V184 := A156.keep Kw176 (ninS (Ne.symm ne48) nin0)
    have O185 := O172.keep Kw176 (allS g_a all0)
    have Z186 : n0 ≤ h174.size := Nat.le_trans Z173 Kw176.1
    have F187 := F163.other W175 (Or.inr (slot_ne (Or.inl (wd16 hw)) (Or.inl (wd34 hw)) (by decide) (t := (.array .byte)) (t' := .int) (by decide) (by decide)))
    have F188 := F164.same W175
    have F189 := F165.other W175 (Or.inr (slot_ne (Or.inl (wd19 hw)) (Or.inl (wd34 hw)) (by decide) (t := (.array .int)) (t' := .int) (by decide) (by decide)))
    have F190 := F166.other W175 (Or.inr (slot_ne (Or.inl (wd21 hw)) (Or.inl (wd34 hw)) (by decide) (t := (.array .int)) (t' := .int) (by decide) (by decide)))
    have F191 := F167.other W175 (Or.inr (slot_ne (Or.inl (wd76 hw)) (Or.inl (wd34 hw)) (by decide) (t := .int) (t' := .int) (by decide) (by decide)))
    have F192 := F168.other W175 (Or.inr (slot_ne (Or.inl (wd64 hw)) (Or.inl (wd34 hw)) (by decide) (t := .int) (t' := .int) (by decide) (by decide)))
    have F193 := F169.other W175 (Or.inr (slot_ne (Or.inl (wd79 hw)) (Or.inl (wd34 hw)) (by decide) (t := .long) (t' := .int) (by decide) (by decide)))
    have F194 := F170.other W175 (Or.inr (slot_ne (Or.inl (wd30 hw)) (Or.inl (wd34 hw)) (by decide) (t := .long) (t' := .int) (by decide) (by decide)))
    refine WP.aloadN (pc' := 209) d_prog_24_method_2_208 rfl rfl rfl ?_
    refine WP.getF (pc' := 212) d_prog_24_method_2_209 rfl (host := "") (Or.inl (wd20 hw)) Via.refl F190 ?_
    refine WP.iloadN (pc' := 213) d_prog_24_method_2_212 rfl rfl ?_
    refine WP.iconst (pc' := 214) d_prog_24_method_2_213 rfl (z := 1) rfl ?_
    refine WP.isub (pc' := 215) d_prog_24_method_2_214 rfl ?_
    refine WP.aloadN (pc' := 216) d_prog_24_method_2_215 rfl rfl rfl ?_
    refine WP.getF (pc' := 219) d_prog_24_method_2_216 rfl (host := "") (Or.inl (wd33 hw)) Via.refl F188 ?_
    refine WP.iastoreI (x' := (us + pe)) (N - 1) (pc' := 220) d_prog_24_method_2_219 rfl V182 (pred hp (by omega)) lt1 ge90 rfl ?_
    intro h195 K196 A197
    have E198 := E177.keep K196
    have V199 := V178.keep K196 (ninS ne92 nin0)
    have V200 := V179.keep K196 (ninS ne93 nin0)
    have V201 := V180.keep K196 (ninS ne94 nin0)
    have V202 := V181.keep K196 (ninS ne95 nin0)
    have V203 := V183.keep K196 (ninS ne96 nin0)
    have V204 := V184.keep K196 (ninS ne97 nin0)
    have F205 := F187.keep K196 (ninS ne91 nin0)
    have F206 := F188.keep K196 (ninS ne91 nin0)
    have F207 := F189.keep K196 (ninS ne91 nin0)
    have F208 := F190.keep K196 (ninS ne91 nin0)
    have F209 := F191.keep K196 (ninS ne91 nin0)
    have F210 := F192.keep K196 (ninS ne91 nin0)
    have F211 := F193.keep K196 (ninS ne91 nin0)
    have F212 := F194.keep K196 (ninS ne91 nin0)
    have O213 := O185.keep K196 (allS ge90 all0)
    have Z214 : n0 ≤ h195.size := Nat.le_trans Z186 K196.1
    refine WP.aload (pc' := 222) d_prog_24_method_2_220 rfl rfl rfl ?_
    refine WP.getS (pc' := 225) d_prog_24_method_2_222 rfl (host := "") (Or.inl (wd27 hw)) Via.refl (S_INC.ext O213.2) ?_
    have hc225 : ¬ ((.ref k) : Value) = (.ref ki) := hc5
    refine WP.acmp_ne (pc1 := 242) (pc2 := 228) d_prog_24_method_2_225 rfl rfl (by decide) (by decide) rfl (fun _ => ?_) (fun k => absurd k hc225)
    refine WP.aloadN (pc' := 243) d_prog_24_method_2_242 rfl rfl rfl ?_
    refine WP.dup (pc' := 244) d_prog_24_method_2_243 rfl rfl ?_
    refine WP.getF (pc' := 247) d_prog_24_method_2_244 rfl (host := "") (Or.inl (wd29 hw)) Via.refl F212 ?_
    refine WP.lload (pc' := 249) d_prog_24_method_2_247 rfl rfl ?_
    refine WP.ladd (pc' := 250) d_prog_24_method_2_249 rfl ?_
    refine WP.putF (pc' := 253) d_prog_24_method_2_250 rfl (host := "") (Or.inl (wd29 hw)) Via.refl F212 E198 (Or.inl (wd30 hw)) (wd7 hw) (ty := .long) (by decide) rfl rfl g_a ?_
    intro h215 W216
    have Kw217 := Keep.of_wr W216
    have E218 := E198.keep Kw217
    have V219 := V199.keep Kw217 (ninS (Ne.symm n_a_bb) nin0)
    have V220 := V200.keep Kw217 (ninS (Ne.symm n_a_sb) nin0)
    have V221 := V201.keep Kw217 (ninS (Ne.symm n_a_eb) nin0)
    have V222 := V202.keep Kw217 (ninS n_ln_a nin0)
    have V223 := V203.keep Kw217 (ninS (Ne.symm ne5) nin0)
    have V224 := V204.keep Kw217 (ninS (Ne.symm ne48) nin0)
    have V225 := A197.keep Kw217 (ninS (Ne.symm ne91) nin0)
    have O226 := O213.keep Kw217 (allS g_a all0)
    have Z227 : n0 ≤ h215.size := Nat.le_trans Z214 Kw217.1
    have F228 := F205.other W216 (Or.inr (slot_ne (Or.inl (wd16 hw)) (Or.inl (wd30 hw)) (by decide) (t := (.array .byte)) (t' := .long) (by decide) (by decide)))
    have F229 := F206.other W216 (Or.inr (slot_ne (Or.inl (wd34 hw)) (Or.inl (wd30 hw)) (by decide) (t := .int) (t' := .long) (by decide) (by decide)))
    have F230 := F207.other W216 (Or.inr (slot_ne (Or.inl (wd19 hw)) (Or.inl (wd30 hw)) (by decide) (t := (.array .int)) (t' := .long) (by decide) (by decide)))
    have F231 := F208.other W216 (Or.inr (slot_ne (Or.inl (wd21 hw)) (Or.inl (wd30 hw)) (by decide) (t := (.array .int)) (t' := .long) (by decide) (by decide)))
    have F232 := F209.other W216 (Or.inr (slot_ne (Or.inl (wd76 hw)) (Or.inl (wd30 hw)) (by decide) (t := .int) (t' := .long) (by decide) (by decide)))
    have F233 := F210.other W216 (Or.inr (slot_ne (Or.inl (wd64 hw)) (Or.inl (wd30 hw)) (by decide) (t := .int) (t' := .long) (by decide) (by decide)))
    have F234 := F211.other W216 (Or.inr (slot_ne (Or.inl (wd79 hw)) (Or.inl (wd30 hw)) (by decide) (t := .long) (t' := .long) (by decide) (by decide)))
    have F235 := F212.same W216
    refine WP.aloadN (pc' := 254) d_prog_24_method_2_253 rfl rfl rfl ?_
    refine WP.dup (pc' := 255) d_prog_24_method_2_254 rfl rfl ?_
    refine WP.getF (pc' := 258) d_prog_24_method_2_255 rfl (host := "") (Or.inl (wd63 hw)) Via.refl F233 ?_
    refine WP.iconst (pc' := 259) d_prog_24_method_2_258 rfl (z := 1) rfl ?_
    refine WP.iadd (pc' := 260) d_prog_24_method_2_259 rfl ?_
    refine WP.putF (pc' := 263) d_prog_24_method_2_260 rfl (host := "") (Or.inl (wd63 hw)) Via.refl F233 E218 (Or.inl (wd64 hw)) (wd7 hw) (ty := .int) (by decide) rfl rfl g_a ?_
    intro h236 W237
    have Kw238 := Keep.of_wr W237
    have E239 := E218.keep Kw238
    have V240 := V219.keep Kw238 (ninS (Ne.symm n_a_bb) nin0)
    have V241 := V220.keep Kw238 (ninS (Ne.symm n_a_sb) nin0)
    have V242 := V221.keep Kw238 (ninS (Ne.symm n_a_eb) nin0)
    have V243 := V222.keep Kw238 (ninS n_ln_a nin0)
    have V244 := V223.keep Kw238 (ninS (Ne.symm ne5) nin0)
    have V245 := V224.keep Kw238 (ninS (Ne.symm ne48) nin0)
    have V246 := V225.keep Kw238 (ninS (Ne.symm ne91) nin0)
    have O247 := O226.keep Kw238 (allS g_a all0)
    have Z248 : n0 ≤ h236.size := Nat.le_trans Z227 Kw238.1
    have F249 := F228.other W237 (Or.inr (slot_ne (Or.inl (wd16 hw)) (Or.inl (wd64 hw)) (by decide) (t := (.array .byte)) (t' := .int) (by decide) (by decide)))
    have F250 := F229.other W237 (Or.inr (slot_ne (Or.inl (wd34 hw)) (Or.inl (wd64 hw)) (by decide) (t := .int) (t' := .int) (by decide) (by decide)))
    have F251 := F230.other W237 (Or.inr (slot_ne (Or.inl (wd19 hw)) (Or.inl (wd64 hw)) (by decide) (t := (.array .int)) (t' := .int) (by decide) (by decide)))
    have F252 := F231.other W237 (Or.inr (slot_ne (Or.inl (wd21 hw)) (Or.inl (wd64 hw)) (by decide) (t := (.array .int)) (t' := .int) (by decide) (by decide)))
    have F253 := F232.other W237 (Or.inr (slot_ne (Or.inl (wd76 hw)) (Or.inl (wd64 hw)) (by decide) (t := .int) (t' := .int) (by decide) (by decide)))
    have F254 := F233.same W237
    have F255 := F234.other W237 (Or.inr (slot_ne (Or.inl (wd79 hw)) (Or.inl (wd64 hw)) (by decide) (t := .long) (t' := .int) (by decide) (by decide)))
    have F256 := F235.other W237 (Or.inr (slot_ne (Or.inl (wd30 hw)) (Or.inl (wd64 hw)) (by decide) (t := .long) (t' := .int) (by decide) (by decide)))
    refine WP.iconst (pc' := 264) d_prog_24_method_2_263 rfl (z := 1) rfl ?_
    refine WP.nret (t := .boolean) d_prog_24_method_2_264 rfl (by simp) rfl (by decide) (by decide) ⟨rfl, _, _, _, _, _, _, ⟨O247, ⟨E239, F249, F250, F251, F252, F253, F254, F255, F256⟩, ⟨⟨_, V244⟩, ⟨_, V245⟩, ⟨_, V246, fun i hi => if q : i = N - 1 then (by unfold updI; rw [if_pos q, if_pos q]) else if q2 : i < 0 then (by unfold updI; rw [if_neg q, if_neg q]; exact (if_pos q2).trans (hE i q2)) else (by unfold updI; rw [if_neg q, if_neg q]; exact (if_neg q2).trans (hZ0 i (by omega)).symm)⟩, ⟨_, V243⟩⟩, ⟨g_a, ge4, ge47, ge90⟩, ⟨ne53, ne96, ne97, ne5, ne48, ne91, n_ln_a, ne9, ne52, ne95⟩, fun i hi => by unfold updI; rw [if_neg (by omega)]; exact hZ0 i (by omega)⟩, (sum_bd hB hu h3).2, by omega, by omega, by omega⟩
  · intro hc5
    refine WP.aloadN (pc' := 9) d_prog_24_method_2_8 rfl rfl rfl ?_
    refine WP.getF (pc' := 12) d_prog_24_method_2_9 rfl (host := "") (Or.inl (wd78 hw)) Via.refl F_income ?_
    refine WP.goto (pc' := 19) d_prog_24_method_2_12 (by decide) (by decide) ?_
    refine WP.lstore (pc' := 21) d_prog_24_method_2_19 rfl (Ls' := #[.val (.ref a), .val (.int p), .val (.ref ln), .val (.int (0 : Int32)), .val (.int pe), .val (.ref k), .val (.long u), .second, .val (.long inc), .second, .unset, .unset, .unset]) rfl ?_
    refine WP.iload (pc' := 23) d_prog_24_method_2_21 rfl rfl ?_
    refine WP.iloadN (pc' := 24) d_prog_24_method_2_23 rfl rfl ?_
    refine WP.isub (pc' := 25) d_prog_24_method_2_24 rfl ?_
    rw [sub0 pe]
    refine WP.istore (pc' := 27) d_prog_24_method_2_25 rfl (Ls' := #[.val (.ref a), .val (.int p), .val (.ref ln), .val (.int (0 : Int32)), .val (.int pe), .val (.ref k), .val (.long u), .second, .val (.long inc), .second, .val (.int pe), .unset, .unset]) rfl ?_
    refine WP.lload (pc' := 29) d_prog_24_method_2_27 rfl rfl ?_
    refine WP.ldc2J (pc' := 32) d_prog_24_method_2_29 rfl (wd31 hw) ?_
    refine WP.lload (pc' := 34) d_prog_24_method_2_32 rfl rfl ?_
    refine WP.lsub (pc' := 35) d_prog_24_method_2_34 rfl ?_
    have hc35 : ¬ ((9223372036854775807 : Int64) - inc) < u := sum_ok hB.1 hB.2.1 h3
    refine WP.lcmp_gt (pc' := 36) (pc1 := 51) (pc2 := 39) d_prog_24_method_2_35 rfl d_prog_24_method_2_36 (by decide) (by decide) rfl (fun k => absurd k hc35) (fun _ => ?_)
    refine WP.iload (pc' := 41) d_prog_24_method_2_39 rfl rfl ?_
    refine WP.ldcI (pc' := 43) d_prog_24_method_2_41 rfl (wd32 hw) ?_
    refine WP.aloadN (pc' := 44) d_prog_24_method_2_43 rfl rfl rfl ?_
    refine WP.getF (pc' := 47) d_prog_24_method_2_44 rfl (host := "") (Or.inl (wd33 hw)) Via.refl F_used ?_
    refine WP.isub (pc' := 48) d_prog_24_method_2_47 rfl ?_
    have hc48 : ¬ ((2147483631 : Int32) - us) < pe := room_ok hU hl (by omega) (by omega)
    refine WP.icmp_le (pc1 := 53) (pc2 := 51) d_prog_24_method_2_48 (by decide) (by decide) rfl (fun _ => ?_) (fun k => absurd k hc48)
    refine WP.aloadN (pc' := 54) d_prog_24_method_2_53 rfl rfl rfl ?_
    refine WP.getF (pc' := 57) d_prog_24_method_2_54 rfl (host := "") (Or.inl (wd33 hw)) Via.refl F_used ?_
    refine WP.iload (pc' := 59) d_prog_24_method_2_57 rfl rfl ?_
    refine WP.iadd (pc' := 60) d_prog_24_method_2_59 rfl ?_
    refine WP.aloadN (pc' := 61) d_prog_24_method_2_60 rfl rfl rfl ?_
    refine WP.getF (pc' := 64) d_prog_24_method_2_61 rfl (host := "") (Or.inl (wd15 hw)) Via.refl F_bytes ?_
    refine WP.arraylengthI (z := (0 : Int32)) (pc' := 65) d_prog_24_method_2_64 rfl B0 rfl ?_
    have hc65 : (0 : Int32) < (us + pe) := by rw [Int32.lt_iff_toInt_lt, adds hU hl (by omega), show (0 : Int32).toInt = 0 from rfl]; omega
    refine WP.icmp_le (pc1 := 117) (pc2 := 68) d_prog_24_method_2_65 (by decide) (by decide) rfl (fun k => absurd hc65 k) (fun _ => ?_)
    refine WP.aloadN (pc' := 69) d_prog_24_method_2_68 rfl rfl rfl ?_
    refine WP.getF (pc' := 72) d_prog_24_method_2_69 rfl (host := "") (Or.inl (wd33 hw)) Via.refl F_used ?_
    refine WP.iload (pc' := 74) d_prog_24_method_2_72 rfl rfl ?_
    refine WP.iadd (pc' := 75) d_prog_24_method_2_74 rfl ?_
    refine WP.i2l (pc' := 76) d_prog_24_method_2_75 rfl ?_
    refine WP.ldc2J (pc' := 79) d_prog_24_method_2_76 rfl (wd35 hw) ?_
    refine WP.aloadN (pc' := 80) d_prog_24_method_2_79 rfl rfl rfl ?_
    refine WP.getF (pc' := 83) d_prog_24_method_2_80 rfl (host := "") (Or.inl (wd15 hw)) Via.refl F_bytes ?_
    refine WP.arraylengthI (z := (0 : Int32)) (pc' := 84) d_prog_24_method_2_83 rfl B0 rfl ?_
    refine WP.i2l (pc' := 85) d_prog_24_method_2_84 rfl ?_
    refine WP.lmul (pc' := 86) d_prog_24_method_2_85 rfl ?_
    refine WP.ldc2J (pc' := 89) d_prog_24_method_2_86 rfl (wd36 hw) ?_
    refine WP.callS (argsL := [(.long ((2 : Int64) * ((0 : Int32).toInt64))), (.long (4096 : Int64))]) (rest := [(.long ((us + pe).toInt64))]) (wd := 2) (cl' := 0) (sl' := 0) (pc' := 92) d_prog_24_method_2_89 rfl (wd37 hw) (wd38 hw) (wd39 hw) (wd40 hw) (by decide) (m_maxL hw ((2 : Int64) * ((0 : Int32).toInt64)) (4096 : Int64) h0 n0) pd_1 rfl rfl rfl (Nat.le_of_eq rfl) (by decide) (by decide) rfl rfl (by decide) (by decide) ?_
    rintro v hh257 ⟨rfl, he257⟩
    rw [he257]
    refine WP.castS (st' := [(.long (maxL ((2 : Int64) * ((0 : Int32).toInt64)) (4096 : Int64))), (.long ((us + pe).toInt64))]) rfl ?_
    refine WP.callS (argsL := [(.long ((us + pe).toInt64)), (.long (maxL ((2 : Int64) * ((0 : Int32).toInt64)) (4096 : Int64)))]) (rest := []) (wd := 0) (cl' := 0) (sl' := 0) (pc' := 95) d_prog_24_method_2_92 rfl (wd37 hw) (wd38 hw) (wd39 hw) (wd40 hw) (by decide) (m_maxL hw ((us + pe).toInt64) (maxL ((2 : Int64) * ((0 : Int32).toInt64)) (4096 : Int64)) h0 n0) pd_1 rfl rfl rfl (Nat.le_of_eq rfl) (by decide) (by decide) rfl rfl (by decide) (by decide) ?_
    rintro v hh258 ⟨rfl, he258⟩
    rw [he258]
    refine WP.castS (st' := [(.long (maxL ((us + pe).toInt64) (maxL ((2 : Int64) * ((0 : Int32).toInt64)) (4096 : Int64))))]) rfl ?_
    refine WP.lstore (pc' := 97) d_prog_24_method_2_95 rfl (Ls' := #[.val (.ref a), .val (.int p), .val (.ref ln), .val (.int (0 : Int32)), .val (.int pe), .val (.ref k), .val (.long u), .second, .val (.long inc), .second, .val (.int pe), .val (.long (maxL ((us + pe).toInt64) (maxL ((2 : Int64) * ((0 : Int32).toInt64)) (4096 : Int64)))), .second]) rfl ?_
    refine WP.aloadN (pc' := 98) d_prog_24_method_2_97 rfl rfl rfl ?_
    refine WP.aloadN (pc' := 99) d_prog_24_method_2_98 rfl rfl rfl ?_
    refine WP.getF (pc' := 102) d_prog_24_method_2_99 rfl (host := "") (Or.inl (wd15 hw)) Via.refl F_bytes ?_
    refine WP.ldc2J (pc' := 105) d_prog_24_method_2_102 rfl (wd41 hw) ?_
    refine WP.lload (pc' := 107) d_prog_24_method_2_105 rfl rfl ?_
    refine WP.callS (argsL := [(.long (2147483631 : Int64)), (.long (maxL ((us + pe).toInt64) (maxL ((2 : Int64) * ((0 : Int32).toInt64)) (4096 : Int64))))]) (rest := [(.ref bb), (.ref a)]) (wd := 2) (cl' := 0) (sl' := 0) (pc' := 110) d_prog_24_method_2_107 rfl (wd42 hw) (wd43 hw) (wd39 hw) (wd44 hw) (by decide) (m_minL hw (2147483631 : Int64) (maxL ((us + pe).toInt64) (maxL ((2 : Int64) * ((0 : Int32).toInt64)) (4096 : Int64))) h0 n0) pd_1 rfl rfl rfl (Nat.le_of_eq rfl) (by decide) (by decide) rfl rfl (by decide) (by decide) ?_
    rintro v hh259 ⟨rfl, he259⟩
    rw [he259]
    refine WP.castS (st' := [(.long (minL (2147483631 : Int64) (maxL ((us + pe).toInt64) (maxL ((2 : Int64) * ((0 : Int32).toInt64)) (4096 : Int64))))), (.ref bb), (.ref a)]) rfl ?_
    refine WP.l2i (pc' := 111) d_prog_24_method_2_110 rfl ?_
    refine WP.callS (argsL := [(.ref bb), (.int ((minL (2147483631 : Int64) (maxL ((us + pe).toInt64) (maxL ((2 : Int64) * ((0 : Int32).toInt64)) (4096 : Int64)))).toInt32))]) (rest := [(.ref a)]) (wd := 1) (cl' := 1) (sl' := 4096) (pc' := 114) d_prog_24_method_2_111 rfl (wd45 hw) (wd46 hw) (wd47 hw) (wd48 hw) (by decide) (m_cpB hw bb ((minL (2147483631 : Int64) (maxL ((us + pe).toInt64) (maxL ((2 : Int64) * ((0 : Int32).toInt64)) (4096 : Int64)))).toInt32) h0 n0 Z0 gB (0) (4096) B0 (grown (by rw [adds hU hl (by omega)]; omega) (by rw [adds hU hl (by omega)]; omega)) (by omega) (by omega)) pd_2 rfl rfl rfl (Nat.le_of_eq rfl) (by decide) (by decide) rfl rfl (by decide) (by decide) ?_
    rintro v h260 ⟨c260, rfl, K260, ge260, sz260, A260⟩
    have ne261 : a ≠ c260 := Nat.ne_of_lt (Nat.lt_of_lt_of_le E0.lt sz260)
    have ne262 : bb ≠ c260 := Nat.ne_of_lt (Nat.lt_of_lt_of_le B0.lt sz260)
    have ne263 : sb ≠ c260 := Nat.ne_of_lt (Nat.lt_of_lt_of_le S0.lt sz260)
    have ne264 : eb ≠ c260 := Nat.ne_of_lt (Nat.lt_of_lt_of_le D0.lt sz260)
    have ne265 : ln ≠ c260 := Nat.ne_of_lt (Nat.lt_of_lt_of_le L0.lt sz260)
    have E266 := E0.keep K260
    have F267 := F_bytes.keep K260 nin0
    have F268 := F_used.keep K260 nin0
    have F269 := F_starts.keep K260 nin0
    have F270 := F_ends.keep K260 nin0
    have F271 := F_lowest.keep K260 nin0
    have F272 := F_count.keep K260 nin0
    have F273 := F_income.keep K260 nin0
    have F274 := F_expenses.keep K260 nin0
    have V275 := B0.keep K260 nin0
    have V276 := S0.keep K260 nin0
    have V277 := D0.keep K260 nin0
    have V278 := L0.keep K260 nin0
    have O279 := O0.keep K260 all0
    have Z280 : n0 ≤ h260.size := Nat.le_trans Z0 K260.1
    refine WP.castS (st' := [(.ref c260), (.ref a)]) rfl ?_
    refine WP.putF (pc' := 117) d_prog_24_method_2_114 rfl (host := "") (Or.inl (wd15 hw)) Via.refl F267 E266 (Or.inl (wd16 hw)) (wd7 hw) (ty := (.array .byte)) (by decide) rfl rfl g_a ?_
    intro h281 W282
    have Kw283 := Keep.of_wr W282
    have E284 := E266.keep Kw283
    have V285 := V275.keep Kw283 (ninS (Ne.symm n_a_bb) nin0)
    have V286 := V276.keep Kw283 (ninS (Ne.symm n_a_sb) nin0)
    have V287 := V277.keep Kw283 (ninS (Ne.symm n_a_eb) nin0)
    have V288 := V278.keep Kw283 (ninS n_ln_a nin0)
    have V289 := A260.keep Kw283 (ninS (Ne.symm ne261) nin0)
    have O290 := O279.keep Kw283 (allS g_a all0)
    have Z291 : n0 ≤ h281.size := Nat.le_trans Z280 Kw283.1
    have F292 := F267.same W282
    have F293 := F268.other W282 (Or.inr (slot_ne (Or.inl (wd34 hw)) (Or.inl (wd16 hw)) (by decide) (t := .int) (t' := (.array .byte)) (by decide) (by decide)))
    have F294 := F269.other W282 (Or.inr (slot_ne (Or.inl (wd19 hw)) (Or.inl (wd16 hw)) (by decide) (t := (.array .int)) (t' := (.array .byte)) (by decide) (by decide)))
    have F295 := F270.other W282 (Or.inr (slot_ne (Or.inl (wd21 hw)) (Or.inl (wd16 hw)) (by decide) (t := (.array .int)) (t' := (.array .byte)) (by decide) (by decide)))
    have F296 := F271.other W282 (Or.inr (slot_ne (Or.inl (wd76 hw)) (Or.inl (wd16 hw)) (by decide) (t := .int) (t' := (.array .byte)) (by decide) (by decide)))
    have F297 := F272.other W282 (Or.inr (slot_ne (Or.inl (wd64 hw)) (Or.inl (wd16 hw)) (by decide) (t := .int) (t' := (.array .byte)) (by decide) (by decide)))
    have F298 := F273.other W282 (Or.inr (slot_ne (Or.inl (wd79 hw)) (Or.inl (wd16 hw)) (by decide) (t := .long) (t' := (.array .byte)) (by decide) (by decide)))
    have F299 := F274.other W282 (Or.inr (slot_ne (Or.inl (wd30 hw)) (Or.inl (wd16 hw)) (by decide) (t := .long) (t' := (.array .byte)) (by decide) (by decide)))
    refine WP.iloadN (pc' := 118) d_prog_24_method_2_117 rfl rfl ?_
    refine WP.aloadN (pc' := 119) d_prog_24_method_2_118 rfl rfl rfl ?_
    refine WP.getF (pc' := 122) d_prog_24_method_2_119 rfl (host := "") (Or.inl (wd20 hw)) Via.refl F295 ?_
    refine WP.arraylengthI (z := (0 : Int32)) (pc' := 123) d_prog_24_method_2_122 rfl V287 rfl ?_
    have hc123 : (0 : Int32) < p := by rw [Int32.lt_iff_toInt_lt, hp, show (0 : Int32).toInt = 0 from rfl]; omega
    refine WP.icmp_le (pc1 := 170) (pc2 := 126) d_prog_24_method_2_123 (by decide) (by decide) rfl (fun k => absurd hc123 k) (fun _ => ?_)
    refine WP.iloadN (pc' := 127) d_prog_24_method_2_126 rfl rfl ?_
    refine WP.iconst (pc' := 128) d_prog_24_method_2_127 rfl (z := 2) rfl ?_
    refine WP.aloadN (pc' := 129) d_prog_24_method_2_128 rfl rfl rfl ?_
    refine WP.getF (pc' := 132) d_prog_24_method_2_129 rfl (host := "") (Or.inl (wd20 hw)) Via.refl F295 ?_
    refine WP.arraylengthI (z := (0 : Int32)) (pc' := 133) d_prog_24_method_2_132 rfl V287 rfl ?_
    refine WP.imul (pc' := 134) d_prog_24_method_2_133 rfl ?_
    refine WP.bipush (pc' := 136) d_prog_24_method_2_134 rfl (z := 16) rfl ?_
    refine WP.callS (argsL := [(.int ((2 : Int32) * (0 : Int32))), (.int (16 : Int32))]) (rest := [(.int p)]) (wd := 1) (cl' := 1) (sl' := 4096) (pc' := 139) d_prog_24_method_2_136 rfl (wd56 hw) (wd57 hw) (wd39 hw) (wd58 hw) (by decide) (m_maxI hw ((2 : Int32) * (0 : Int32)) (16 : Int32) h281 n0) pd_0 rfl rfl rfl (Nat.le_of_eq rfl) (by decide) (by decide) rfl rfl (by decide) (by decide) ?_
    rintro v hh300 ⟨rfl, he300⟩
    rw [he300]
    refine WP.castS (st' := [(.int (maxI ((2 : Int32) * (0 : Int32)) (16 : Int32))), (.int p)]) rfl ?_
    refine WP.callS (argsL := [(.int p), (.int (maxI ((2 : Int32) * (0 : Int32)) (16 : Int32)))]) (rest := []) (wd := 0) (cl' := 1) (sl' := 4096) (pc' := 142) d_prog_24_method_2_139 rfl (wd56 hw) (wd57 hw) (wd39 hw) (wd58 hw) (by decide) (m_maxI hw p (maxI ((2 : Int32) * (0 : Int32)) (16 : Int32)) h281 n0) pd_0 rfl rfl rfl (Nat.le_of_eq rfl) (by decide) (by decide) rfl rfl (by decide) (by decide) ?_
    rintro v hh301 ⟨rfl, he301⟩
    rw [he301]
    refine WP.castS (st' := [(.int (maxI p (maxI ((2 : Int32) * (0 : Int32)) (16 : Int32))))]) rfl ?_
    generalize ht302 : (maxI p (maxI ((2 : Int32) * (0 : Int32)) (16 : Int32))) = t302
    refine WP.istore (pc' := 144) d_prog_24_method_2_142 rfl (Ls' := #[.val (.ref a), .val (.int p), .val (.ref ln), .val (.int (0 : Int32)), .val (.int pe), .val (.ref k), .val (.long u), .second, .val (.long inc), .second, .val (.int pe), .val (.int t302), .unset]) rfl ?_
    obtain ⟨M, hM⟩ : ∃ M : Nat, M = max N (max (2 * 0) 16) := ⟨_, rfl⟩
    have hMv : t302.toInt = (M : Int) := by rw [← ht302, maxI_v, maxI_v, hp, show ((2 : Int32) * 0).toInt = 0 from rfl, show (16 : Int32).toInt = 16 from rfl]; omega
    refine WP.aloadN (pc' := 145) d_prog_24_method_2_144 rfl rfl rfl ?_
    refine WP.aloadN (pc' := 146) d_prog_24_method_2_145 rfl rfl rfl ?_
    refine WP.getF (pc' := 149) d_prog_24_method_2_146 rfl (host := "") (Or.inl (wd18 hw)) Via.refl F294 ?_
    refine WP.iload (pc' := 151) d_prog_24_method_2_149 rfl rfl ?_
    refine WP.callS (argsL := [(.ref sb), (.int t302)]) (rest := [(.ref a)]) (wd := 1) (cl' := 2) (sl' := 4160) (pc' := 154) d_prog_24_method_2_151 rfl (wd59 hw) (wd60 hw) (wd47 hw) (wd61 hw) (by decide) (m_cpI64 hw sb t302 h281 n0 Z291 gS (0) (M) V286 hMv (by rw [hM]; omega) (by omega)) pd_3 rfl rfl rfl (Nat.le_of_eq rfl) (by decide) (by decide) rfl rfl (by decide) (by decide) ?_
    rintro v h303 ⟨c303, rfl, K303, ge303, sz303, A303⟩
    have ne304 : a ≠ c303 := Nat.ne_of_lt (Nat.lt_of_lt_of_le E284.lt sz303)
    have ne305 : bb ≠ c303 := Nat.ne_of_lt (Nat.lt_of_lt_of_le V285.lt sz303)
    have ne306 : sb ≠ c303 := Nat.ne_of_lt (Nat.lt_of_lt_of_le V286.lt sz303)
    have ne307 : eb ≠ c303 := Nat.ne_of_lt (Nat.lt_of_lt_of_le V287.lt sz303)
    have ne308 : ln ≠ c303 := Nat.ne_of_lt (Nat.lt_of_lt_of_le V288.lt sz303)
    have ne309 : c260 ≠ c303 := Nat.ne_of_lt (Nat.lt_of_lt_of_le V289.lt sz303)
    have E310 := E284.keep K303
    have V311 := V285.keep K303 nin0
    have V312 := V286.keep K303 nin0
    have V313 := V287.keep K303 nin0
    have V314 := V288.keep K303 nin0
    have V315 := V289.keep K303 nin0
    have F316 := F292.keep K303 nin0
    have F317 := F293.keep K303 nin0
    have F318 := F294.keep K303 nin0
    have F319 := F295.keep K303 nin0
    have F320 := F296.keep K303 nin0
    have F321 := F297.keep K303 nin0
    have F322 := F298.keep K303 nin0
    have F323 := F299.keep K303 nin0
    have O324 := O290.keep K303 all0
    have Z325 : n0 ≤ h303.size := Nat.le_trans Z291 K303.1
    refine WP.castS (st' := [(.ref c303), (.ref a)]) rfl ?_
    refine WP.putF (pc' := 157) d_prog_24_method_2_154 rfl (host := "") (Or.inl (wd18 hw)) Via.refl F318 E310 (Or.inl (wd19 hw)) (wd7 hw) (ty := (.array .int)) (by decide) rfl rfl g_a ?_
    intro h326 W327
    have Kw328 := Keep.of_wr W327
    have E329 := E310.keep Kw328
    have V330 := V311.keep Kw328 (ninS (Ne.symm n_a_bb) nin0)
    have V331 := V312.keep Kw328 (ninS (Ne.symm n_a_sb) nin0)
    have V332 := V313.keep Kw328 (ninS (Ne.symm n_a_eb) nin0)
    have V333 := V314.keep Kw328 (ninS n_ln_a nin0)
    have V334 := V315.keep Kw328 (ninS (Ne.symm ne261) nin0)
    have V335 := A303.keep Kw328 (ninS (Ne.symm ne304) nin0)
    have O336 := O324.keep Kw328 (allS g_a all0)
    have Z337 : n0 ≤ h326.size := Nat.le_trans Z325 Kw328.1
    have F338 := F316.other W327 (Or.inr (slot_ne (Or.inl (wd16 hw)) (Or.inl (wd19 hw)) (by decide) (t := (.array .byte)) (t' := (.array .int)) (by decide) (by decide)))
    have F339 := F317.other W327 (Or.inr (slot_ne (Or.inl (wd34 hw)) (Or.inl (wd19 hw)) (by decide) (t := .int) (t' := (.array .int)) (by decide) (by decide)))
    have F340 := F318.same W327
    have F341 := F319.other W327 (Or.inr (slot_ne (Or.inl (wd21 hw)) (Or.inl (wd19 hw)) (by decide) (t := (.array .int)) (t' := (.array .int)) (by decide) (by decide)))
    have F342 := F320.other W327 (Or.inr (slot_ne (Or.inl (wd76 hw)) (Or.inl (wd19 hw)) (by decide) (t := .int) (t' := (.array .int)) (by decide) (by decide)))
    have F343 := F321.other W327 (Or.inr (slot_ne (Or.inl (wd64 hw)) (Or.inl (wd19 hw)) (by decide) (t := .int) (t' := (.array .int)) (by decide) (by decide)))
    have F344 := F322.other W327 (Or.inr (slot_ne (Or.inl (wd79 hw)) (Or.inl (wd19 hw)) (by decide) (t := .long) (t' := (.array .int)) (by decide) (by decide)))
    have F345 := F323.other W327 (Or.inr (slot_ne (Or.inl (wd30 hw)) (Or.inl (wd19 hw)) (by decide) (t := .long) (t' := (.array .int)) (by decide) (by decide)))
    refine WP.aloadN (pc' := 158) d_prog_24_method_2_157 rfl rfl rfl ?_
    refine WP.aloadN (pc' := 159) d_prog_24_method_2_158 rfl rfl rfl ?_
    refine WP.getF (pc' := 162) d_prog_24_method_2_159 rfl (host := "") (Or.inl (wd20 hw)) Via.refl F341 ?_
    refine WP.iload (pc' := 164) d_prog_24_method_2_162 rfl rfl ?_
    refine WP.callS (argsL := [(.ref eb), (.int t302)]) (rest := [(.ref a)]) (wd := 1) (cl' := 3) (sl' := 4224) (pc' := 167) d_prog_24_method_2_164 rfl (wd59 hw) (wd60 hw) (wd47 hw) (wd61 hw) (by decide) (m_cpI64 hw eb t302 h326 n0 Z337 gE (0) (M) V332 hMv (by rw [hM]; omega) (by omega)) pd_3 rfl rfl rfl (Nat.le_of_eq rfl) (by decide) (by decide) rfl rfl (by decide) (by decide) ?_
    rintro v h346 ⟨c346, rfl, K346, ge346, sz346, A346⟩
    have ne347 : a ≠ c346 := Nat.ne_of_lt (Nat.lt_of_lt_of_le E329.lt sz346)
    have ne348 : bb ≠ c346 := Nat.ne_of_lt (Nat.lt_of_lt_of_le V330.lt sz346)
    have ne349 : sb ≠ c346 := Nat.ne_of_lt (Nat.lt_of_lt_of_le V331.lt sz346)
    have ne350 : eb ≠ c346 := Nat.ne_of_lt (Nat.lt_of_lt_of_le V332.lt sz346)
    have ne351 : ln ≠ c346 := Nat.ne_of_lt (Nat.lt_of_lt_of_le V333.lt sz346)
    have ne352 : c260 ≠ c346 := Nat.ne_of_lt (Nat.lt_of_lt_of_le V334.lt sz346)
    have ne353 : c303 ≠ c346 := Nat.ne_of_lt (Nat.lt_of_lt_of_le V335.lt sz346)
    have E354 := E329.keep K346
    have V355 := V330.keep K346 nin0
    have V356 := V331.keep K346 nin0
    have V357 := V332.keep K346 nin0
    have V358 := V333.keep K346 nin0
    have V359 := V334.keep K346 nin0
    have V360 := V335.keep K346 nin0
    have F361 := F338.keep K346 nin0
    have F362 := F339.keep K346 nin0
    have F363 := F340.keep K346 nin0
    have F364 := F341.keep K346 nin0
    have F365 := F342.keep K346 nin0
    have F366 := F343.keep K346 nin0
    have F367 := F344.keep K346 nin0
    have F368 := F345.keep K346 nin0
    have O369 := O336.keep K346 all0
    have Z370 : n0 ≤ h346.size := Nat.le_trans Z337 K346.1
    refine WP.castS (st' := [(.ref c346), (.ref a)]) rfl ?_
    refine WP.putF (pc' := 170) d_prog_24_method_2_167 rfl (host := "") (Or.inl (wd20 hw)) Via.refl F364 E354 (Or.inl (wd21 hw)) (wd7 hw) (ty := (.array .int)) (by decide) rfl rfl g_a ?_
    intro h371 W372
    have Kw373 := Keep.of_wr W372
    have E374 := E354.keep Kw373
    have V375 := V355.keep Kw373 (ninS (Ne.symm n_a_bb) nin0)
    have V376 := V356.keep Kw373 (ninS (Ne.symm n_a_sb) nin0)
    have V377 := V357.keep Kw373 (ninS (Ne.symm n_a_eb) nin0)
    have V378 := V358.keep Kw373 (ninS n_ln_a nin0)
    have V379 := V359.keep Kw373 (ninS (Ne.symm ne261) nin0)
    have V380 := V360.keep Kw373 (ninS (Ne.symm ne304) nin0)
    have V381 := A346.keep Kw373 (ninS (Ne.symm ne347) nin0)
    have O382 := O369.keep Kw373 (allS g_a all0)
    have Z383 : n0 ≤ h371.size := Nat.le_trans Z370 Kw373.1
    have F384 := F361.other W372 (Or.inr (slot_ne (Or.inl (wd16 hw)) (Or.inl (wd21 hw)) (by decide) (t := (.array .byte)) (t' := (.array .int)) (by decide) (by decide)))
    have F385 := F362.other W372 (Or.inr (slot_ne (Or.inl (wd34 hw)) (Or.inl (wd21 hw)) (by decide) (t := .int) (t' := (.array .int)) (by decide) (by decide)))
    have F386 := F363.other W372 (Or.inr (slot_ne (Or.inl (wd19 hw)) (Or.inl (wd21 hw)) (by decide) (t := (.array .int)) (t' := (.array .int)) (by decide) (by decide)))
    have F387 := F364.same W372
    have F388 := F365.other W372 (Or.inr (slot_ne (Or.inl (wd76 hw)) (Or.inl (wd21 hw)) (by decide) (t := .int) (t' := (.array .int)) (by decide) (by decide)))
    have F389 := F366.other W372 (Or.inr (slot_ne (Or.inl (wd64 hw)) (Or.inl (wd21 hw)) (by decide) (t := .int) (t' := (.array .int)) (by decide) (by decide)))
    have F390 := F367.other W372 (Or.inr (slot_ne (Or.inl (wd79 hw)) (Or.inl (wd21 hw)) (by decide) (t := .long) (t' := (.array .int)) (by decide) (by decide)))
    have F391 := F368.other W372 (Or.inr (slot_ne (Or.inl (wd30 hw)) (Or.inl (wd21 hw)) (by decide) (t := .long) (t' := (.array .int)) (by decide) (by decide)))
    have lt1 : N - 1 < M := by omega
    refine WP.aloadN (pc' := 171) d_prog_24_method_2_170 rfl rfl rfl ?_
    refine WP.iloadN (pc' := 172) d_prog_24_method_2_171 rfl rfl ?_
    refine WP.aloadN (pc' := 173) d_prog_24_method_2_172 rfl rfl rfl ?_
    refine WP.getF (pc' := 176) d_prog_24_method_2_173 rfl (host := "") (Or.inl (wd15 hw)) Via.refl F384 ?_
    refine WP.aloadN (pc' := 177) d_prog_24_method_2_176 rfl rfl rfl ?_
    refine WP.getF (pc' := 180) d_prog_24_method_2_177 rfl (host := "") (Or.inl (wd33 hw)) Via.refl F385 ?_
    refine WP.iload (pc' := 182) d_prog_24_method_2_180 rfl rfl ?_
    refine WP.arraycopy (wd := 0) (sp := 0) (dp := U) (nn := len) (pc' := 185) d_prog_24_method_2_182 rfl (wd62 hw) (wd55 hw) (wd53 hw) (wd54 hw) V378 V379 rfl rfl hU hl (by omega) (by omega) ge260 rfl (by decide) (Nat.le_of_eq rfl) (by decide) ?_
    intro h392 K392 A392
    have E393 := E374.keep K392
    have V394 := V375.keep K392 (ninS ne262 nin0)
    have V395 := V376.keep K392 (ninS ne263 nin0)
    have V396 := V377.keep K392 (ninS ne264 nin0)
    have V397 := V378.keep K392 (ninS ne265 nin0)
    have V398 := V380.keep K392 (ninS (Ne.symm ne309) nin0)
    have V399 := V381.keep K392 (ninS (Ne.symm ne352) nin0)
    have F400 := F384.keep K392 (ninS ne261 nin0)
    have F401 := F385.keep K392 (ninS ne261 nin0)
    have F402 := F386.keep K392 (ninS ne261 nin0)
    have F403 := F387.keep K392 (ninS ne261 nin0)
    have F404 := F388.keep K392 (ninS ne261 nin0)
    have F405 := F389.keep K392 (ninS ne261 nin0)
    have F406 := F390.keep K392 (ninS ne261 nin0)
    have F407 := F391.keep K392 (ninS ne261 nin0)
    have O408 := O382.keep K392 (allS ge260 all0)
    have Z409 : n0 ≤ h392.size := Nat.le_trans Z383 K392.1
    refine WP.aloadN (pc' := 186) d_prog_24_method_2_185 rfl rfl rfl ?_
    refine WP.getF (pc' := 189) d_prog_24_method_2_186 rfl (host := "") (Or.inl (wd18 hw)) Via.refl F402 ?_
    refine WP.iloadN (pc' := 190) d_prog_24_method_2_189 rfl rfl ?_
    refine WP.iconst (pc' := 191) d_prog_24_method_2_190 rfl (z := 1) rfl ?_
    refine WP.isub (pc' := 192) d_prog_24_method_2_191 rfl ?_
    refine WP.aloadN (pc' := 193) d_prog_24_method_2_192 rfl rfl rfl ?_
    refine WP.getF (pc' := 196) d_prog_24_method_2_193 rfl (host := "") (Or.inl (wd33 hw)) Via.refl F401 ?_
    refine WP.iastoreI (x' := us) (N - 1) (pc' := 197) d_prog_24_method_2_196 rfl V398 (pred hp (by omega)) lt1 ge303 rfl ?_
    intro h410 K411 A412
    have E413 := E393.keep K411
    have V414 := V394.keep K411 (ninS ne305 nin0)
    have V415 := V395.keep K411 (ninS ne306 nin0)
    have V416 := V396.keep K411 (ninS ne307 nin0)
    have V417 := V397.keep K411 (ninS ne308 nin0)
    have V418 := V399.keep K411 (ninS (Ne.symm ne353) nin0)
    have F419 := F400.keep K411 (ninS ne304 nin0)
    have F420 := F401.keep K411 (ninS ne304 nin0)
    have F421 := F402.keep K411 (ninS ne304 nin0)
    have F422 := F403.keep K411 (ninS ne304 nin0)
    have F423 := F404.keep K411 (ninS ne304 nin0)
    have F424 := F405.keep K411 (ninS ne304 nin0)
    have F425 := F406.keep K411 (ninS ne304 nin0)
    have F426 := F407.keep K411 (ninS ne304 nin0)
    have V427 := A392.keep K411 (ninS ne309 nin0)
    have O428 := O408.keep K411 (allS ge303 all0)
    have Z429 : n0 ≤ h410.size := Nat.le_trans Z409 K411.1
    refine WP.aloadN (pc' := 198) d_prog_24_method_2_197 rfl rfl rfl ?_
    refine WP.dup (pc' := 199) d_prog_24_method_2_198 rfl rfl ?_
    refine WP.getF (pc' := 202) d_prog_24_method_2_199 rfl (host := "") (Or.inl (wd33 hw)) Via.refl F420 ?_
    refine WP.iload (pc' := 204) d_prog_24_method_2_202 rfl rfl ?_
    refine WP.iadd (pc' := 205) d_prog_24_method_2_204 rfl ?_
    refine WP.putF (pc' := 208) d_prog_24_method_2_205 rfl (host := "") (Or.inl (wd33 hw)) Via.refl F420 E413 (Or.inl (wd34 hw)) (wd7 hw) (ty := .int) (by decide) rfl rfl g_a ?_
    intro h430 W431
    have Kw432 := Keep.of_wr W431
    have E433 := E413.keep Kw432
    have V434 := V414.keep Kw432 (ninS (Ne.symm n_a_bb) nin0)
    have V435 := V415.keep Kw432 (ninS (Ne.symm n_a_sb) nin0)
    have V436 := V416.keep Kw432 (ninS (Ne.symm n_a_eb) nin0)
    have V437 := V417.keep Kw432 (ninS n_ln_a nin0)
    have V438 := V418.keep Kw432 (ninS (Ne.symm ne347) nin0)
    have V439 := V427.keep Kw432 (ninS (Ne.symm ne261) nin0)
    have V440 := A412.keep Kw432 (ninS (Ne.symm ne304) nin0)
    have O441 := O428.keep Kw432 (allS g_a all0)
    have Z442 : n0 ≤ h430.size := Nat.le_trans Z429 Kw432.1
    have F443 := F419.other W431 (Or.inr (slot_ne (Or.inl (wd16 hw)) (Or.inl (wd34 hw)) (by decide) (t := (.array .byte)) (t' := .int) (by decide) (by decide)))
    have F444 := F420.same W431
    have F445 := F421.other W431 (Or.inr (slot_ne (Or.inl (wd19 hw)) (Or.inl (wd34 hw)) (by decide) (t := (.array .int)) (t' := .int) (by decide) (by decide)))
    have F446 := F422.other W431 (Or.inr (slot_ne (Or.inl (wd21 hw)) (Or.inl (wd34 hw)) (by decide) (t := (.array .int)) (t' := .int) (by decide) (by decide)))
    have F447 := F423.other W431 (Or.inr (slot_ne (Or.inl (wd76 hw)) (Or.inl (wd34 hw)) (by decide) (t := .int) (t' := .int) (by decide) (by decide)))
    have F448 := F424.other W431 (Or.inr (slot_ne (Or.inl (wd64 hw)) (Or.inl (wd34 hw)) (by decide) (t := .int) (t' := .int) (by decide) (by decide)))
    have F449 := F425.other W431 (Or.inr (slot_ne (Or.inl (wd79 hw)) (Or.inl (wd34 hw)) (by decide) (t := .long) (t' := .int) (by decide) (by decide)))
    have F450 := F426.other W431 (Or.inr (slot_ne (Or.inl (wd30 hw)) (Or.inl (wd34 hw)) (by decide) (t := .long) (t' := .int) (by decide) (by decide)))
    refine WP.aloadN (pc' := 209) d_prog_24_method_2_208 rfl rfl rfl ?_
    refine WP.getF (pc' := 212) d_prog_24_method_2_209 rfl (host := "") (Or.inl (wd20 hw)) Via.refl F446 ?_
    refine WP.iloadN (pc' := 213) d_prog_24_method_2_212 rfl rfl ?_
    refine WP.iconst (pc' := 214) d_prog_24_method_2_213 rfl (z := 1) rfl ?_
    refine WP.isub (pc' := 215) d_prog_24_method_2_214 rfl ?_
    refine WP.aloadN (pc' := 216) d_prog_24_method_2_215 rfl rfl rfl ?_
    refine WP.getF (pc' := 219) d_prog_24_method_2_216 rfl (host := "") (Or.inl (wd33 hw)) Via.refl F444 ?_
    refine WP.iastoreI (x' := (us + pe)) (N - 1) (pc' := 220) d_prog_24_method_2_219 rfl V438 (pred hp (by omega)) lt1 ge346 rfl ?_
    intro h451 K452 A453
    have E454 := E433.keep K452
    have V455 := V434.keep K452 (ninS ne348 nin0)
    have V456 := V435.keep K452 (ninS ne349 nin0)
    have V457 := V436.keep K452 (ninS ne350 nin0)
    have V458 := V437.keep K452 (ninS ne351 nin0)
    have V459 := V439.keep K452 (ninS ne352 nin0)
    have V460 := V440.keep K452 (ninS ne353 nin0)
    have F461 := F443.keep K452 (ninS ne347 nin0)
    have F462 := F444.keep K452 (ninS ne347 nin0)
    have F463 := F445.keep K452 (ninS ne347 nin0)
    have F464 := F446.keep K452 (ninS ne347 nin0)
    have F465 := F447.keep K452 (ninS ne347 nin0)
    have F466 := F448.keep K452 (ninS ne347 nin0)
    have F467 := F449.keep K452 (ninS ne347 nin0)
    have F468 := F450.keep K452 (ninS ne347 nin0)
    have O469 := O441.keep K452 (allS ge346 all0)
    have Z470 : n0 ≤ h451.size := Nat.le_trans Z442 K452.1
    refine WP.aload (pc' := 222) d_prog_24_method_2_220 rfl rfl rfl ?_
    refine WP.getS (pc' := 225) d_prog_24_method_2_222 rfl (host := "") (Or.inl (wd27 hw)) Via.refl (S_INC.ext O469.2) ?_
    have hc225 : ((.ref k) : Value) = (.ref ki) := hc5
    refine WP.acmp_ne (pc1 := 242) (pc2 := 228) d_prog_24_method_2_225 rfl rfl (by decide) (by decide) rfl (fun k => absurd hc225 k) (fun _ => ?_)
    refine WP.aloadN (pc' := 229) d_prog_24_method_2_228 rfl rfl rfl ?_
    refine WP.dup (pc' := 230) d_prog_24_method_2_229 rfl rfl ?_
    refine WP.getF (pc' := 233) d_prog_24_method_2_230 rfl (host := "") (Or.inl (wd78 hw)) Via.refl F467 ?_
    refine WP.lload (pc' := 235) d_prog_24_method_2_233 rfl rfl ?_
    refine WP.ladd (pc' := 236) d_prog_24_method_2_235 rfl ?_
    refine WP.putF (pc' := 239) d_prog_24_method_2_236 rfl (host := "") (Or.inl (wd78 hw)) Via.refl F467 E454 (Or.inl (wd79 hw)) (wd7 hw) (ty := .long) (by decide) rfl rfl g_a ?_
    intro h471 W472
    have Kw473 := Keep.of_wr W472
    have E474 := E454.keep Kw473
    have V475 := V455.keep Kw473 (ninS (Ne.symm n_a_bb) nin0)
    have V476 := V456.keep Kw473 (ninS (Ne.symm n_a_sb) nin0)
    have V477 := V457.keep Kw473 (ninS (Ne.symm n_a_eb) nin0)
    have V478 := V458.keep Kw473 (ninS n_ln_a nin0)
    have V479 := V459.keep Kw473 (ninS (Ne.symm ne261) nin0)
    have V480 := V460.keep Kw473 (ninS (Ne.symm ne304) nin0)
    have V481 := A453.keep Kw473 (ninS (Ne.symm ne347) nin0)
    have O482 := O469.keep Kw473 (allS g_a all0)
    have Z483 : n0 ≤ h471.size := Nat.le_trans Z470 Kw473.1
    have F484 := F461.other W472 (Or.inr (slot_ne (Or.inl (wd16 hw)) (Or.inl (wd79 hw)) (by decide) (t := (.array .byte)) (t' := .long) (by decide) (by decide)))
    have F485 := F462.other W472 (Or.inr (slot_ne (Or.inl (wd34 hw)) (Or.inl (wd79 hw)) (by decide) (t := .int) (t' := .long) (by decide) (by decide)))
    have F486 := F463.other W472 (Or.inr (slot_ne (Or.inl (wd19 hw)) (Or.inl (wd79 hw)) (by decide) (t := (.array .int)) (t' := .long) (by decide) (by decide)))
    have F487 := F464.other W472 (Or.inr (slot_ne (Or.inl (wd21 hw)) (Or.inl (wd79 hw)) (by decide) (t := (.array .int)) (t' := .long) (by decide) (by decide)))
    have F488 := F465.other W472 (Or.inr (slot_ne (Or.inl (wd76 hw)) (Or.inl (wd79 hw)) (by decide) (t := .int) (t' := .long) (by decide) (by decide)))
    have F489 := F466.other W472 (Or.inr (slot_ne (Or.inl (wd64 hw)) (Or.inl (wd79 hw)) (by decide) (t := .int) (t' := .long) (by decide) (by decide)))
    have F490 := F467.same W472
    have F491 := F468.other W472 (Or.inr (slot_ne (Or.inl (wd30 hw)) (Or.inl (wd79 hw)) (by decide) (t := .long) (t' := .long) (by decide) (by decide)))
    refine WP.goto (pc' := 253) d_prog_24_method_2_239 (by decide) (by decide) ?_
    refine WP.aloadN (pc' := 254) d_prog_24_method_2_253 rfl rfl rfl ?_
    refine WP.dup (pc' := 255) d_prog_24_method_2_254 rfl rfl ?_
    refine WP.getF (pc' := 258) d_prog_24_method_2_255 rfl (host := "") (Or.inl (wd63 hw)) Via.refl F489 ?_
    refine WP.iconst (pc' := 259) d_prog_24_method_2_258 rfl (z := 1) rfl ?_
    refine WP.iadd (pc' := 260) d_prog_24_method_2_259 rfl ?_
    refine WP.putF (pc' := 263) d_prog_24_method_2_260 rfl (host := "") (Or.inl (wd63 hw)) Via.refl F489 E474 (Or.inl (wd64 hw)) (wd7 hw) (ty := .int) (by decide) rfl rfl g_a ?_
    intro h492 W493
    have Kw494 := Keep.of_wr W493
    have E495 := E474.keep Kw494
    have V496 := V475.keep Kw494 (ninS (Ne.symm n_a_bb) nin0)
    have V497 := V476.keep Kw494 (ninS (Ne.symm n_a_sb) nin0)
    have V498 := V477.keep Kw494 (ninS (Ne.symm n_a_eb) nin0)
    have V499 := V478.keep Kw494 (ninS n_ln_a nin0)
    have V500 := V479.keep Kw494 (ninS (Ne.symm ne261) nin0)
    have V501 := V480.keep Kw494 (ninS (Ne.symm ne304) nin0)
    have V502 := V481.keep Kw494 (ninS (Ne.symm ne347) nin0)
    have O503 := O482.keep Kw494 (allS g_a all0)
    have Z504 : n0 ≤ h492.size := Nat.le_trans Z483 Kw494.1
    have F505 := F484.other W493 (Or.inr (slot_ne (Or.inl (wd16 hw)) (Or.inl (wd64 hw)) (by decide) (t := (.array .byte)) (t' := .int) (by decide) (by decide)))
    have F506 := F485.other W493 (Or.inr (slot_ne (Or.inl (wd34 hw)) (Or.inl (wd64 hw)) (by decide) (t := .int) (t' := .int) (by decide) (by decide)))
    have F507 := F486.other W493 (Or.inr (slot_ne (Or.inl (wd19 hw)) (Or.inl (wd64 hw)) (by decide) (t := (.array .int)) (t' := .int) (by decide) (by decide)))
    have F508 := F487.other W493 (Or.inr (slot_ne (Or.inl (wd21 hw)) (Or.inl (wd64 hw)) (by decide) (t := (.array .int)) (t' := .int) (by decide) (by decide)))
    have F509 := F488.other W493 (Or.inr (slot_ne (Or.inl (wd76 hw)) (Or.inl (wd64 hw)) (by decide) (t := .int) (t' := .int) (by decide) (by decide)))
    have F510 := F489.same W493
    have F511 := F490.other W493 (Or.inr (slot_ne (Or.inl (wd79 hw)) (Or.inl (wd64 hw)) (by decide) (t := .long) (t' := .int) (by decide) (by decide)))
    have F512 := F491.other W493 (Or.inr (slot_ne (Or.inl (wd30 hw)) (Or.inl (wd64 hw)) (by decide) (t := .long) (t' := .int) (by decide) (by decide)))
    refine WP.iconst (pc' := 264) d_prog_24_method_2_263 rfl (z := 1) rfl ?_
    refine WP.nret (t := .boolean) d_prog_24_method_2_264 rfl (by simp) rfl (by decide) (by decide) ⟨rfl, _, _, _, _, _, _, ⟨O503, ⟨E495, F505, F506, F507, F508, F509, F510, F511, F512⟩, ⟨⟨_, V500⟩, ⟨_, V501⟩, ⟨_, V502, fun i hi => if q : i = N - 1 then (by unfold updI; rw [if_pos q, if_pos q]) else if q2 : i < 0 then (by unfold updI; rw [if_neg q, if_neg q]; exact (if_pos q2).trans (hE i q2)) else (by unfold updI; rw [if_neg q, if_neg q]; exact (if_neg q2).trans (hZ0 i (by omega)).symm)⟩, ⟨_, V499⟩⟩, ⟨g_a, ge260, ge303, ge346⟩, ⟨ne309, ne352, ne353, ne261, ne304, ne347, n_ln_a, ne265, ne308, ne351⟩, fun i hi => by unfold updI; rw [if_neg (by omega)]; exact hZ0 i (by omega)⟩, (sum_bd hB hu h3).1, by omega, by omega, by omega⟩
set_option maxRecDepth 65536 in
set_option maxHeartbeats 40000000 in
theorem m_cpI128 {Z : State} {a0 : Array Value} (hw : ∀ d ∈ tables_1, d.before a0 Z = true) (a : Addr) (p : Int32) (h0 : Heap) (n0 : Nat) (Z0 : n0 ≤ h0.size) (g : Nat → Int32) (n m : Nat) (A0 : Ari Z h0 a .int n g) (hp : p.toInt = (m : Int)) (hnm : n < m) (hm : m ≤ 128) : ∀ l, Does l Z (⟨"java/util/Arrays", "copyOf", "([II)[I"⟩ : MethodName) jdk_65_method_123_code 3 (some (.array .int)) ({ frames := 1, cells := 1, slots := 128, locals := 18 } : Room) n0 #[(.ref a), (.int p)] h0 (fun v h => ∃ b : Addr, v = some (.ref b) ∧ Keep h0 h [] ∧ n0 ≤ b ∧ h0.size ≤ b ∧ Ari Z h b .int m (fun i => if i < n then g i else 0)) := by
  intro l
  refine Does.of_wp (plainFor_of_name pn_1) (Ls := #[.val (.ref a), .val (.int p), .unset]) (fun m => by first | (simp [entryFrame, mkF, argsToLocals, Value.category]; done) | rfl) ?_
  intro C
  have K0 := Keep.refl h0 []
  refine WP.iloadN (pc' := 1) d_jdk_65_method_123_0 rfl rfl ?_
  refine WP.aloadN (pc' := 2) d_jdk_65_method_123_1 rfl rfl rfl ?_
  refine WP.arraylengthI (z := (n : Nat).toInt32) (pc' := 3) d_jdk_65_method_123_2 rfl A0 rfl ?_
  have hc3 : ¬ p = (n : Nat).toInt32 := fun q => by rw [q, natI (by omega)] at hp; omega
  refine WP.icmp_ne (pc1 := 14) (pc2 := 6) d_jdk_65_method_123_3 (by decide) (by decide) rfl (fun _ => ?_) (fun k => absurd k hc3)
  refine WP.iloadN (pc' := 15) d_jdk_65_method_123_14 rfl rfl ?_
  refine WP.newPI (ty := .int) (n := m) (cap := 128) (cl' := 1) (sl' := 128) (pc' := 17) d_jdk_65_method_123_15 rfl rfl rfl (wd17 hw) hp hm (by decide) rfl rfl (by decide) (by decide) ?_
  intro h1 b1 g1 E1 A1
  have ge2 : n0 ≤ b1 := by rw [g1]; exact Z0
  have sz3 : h0.size ≤ b1 := by rw [g1]; exact K0.1
  have ne4 : a ≠ b1 := by rw [g1]; exact Nat.ne_of_lt A0.lt
  have V5 := A0.ext E1
  have K6 := K0.ext E1
  have Z7 : n0 ≤ h1.size := Nat.le_trans Z0 E1.1
  refine WP.astoreN (pc' := 18) d_jdk_65_method_123_17 rfl rfl (Ls' := #[.val (.ref a), .val (.int p), .val (.ref b1)]) rfl ?_
  refine WP.aloadN (pc' := 19) d_jdk_65_method_123_18 rfl rfl rfl ?_
  refine WP.iconst (pc' := 20) d_jdk_65_method_123_19 rfl (z := 0) rfl ?_
  refine WP.aloadN (pc' := 21) d_jdk_65_method_123_20 rfl rfl rfl ?_
  refine WP.iconst (pc' := 22) d_jdk_65_method_123_21 rfl (z := 0) rfl ?_
  refine WP.aloadN (pc' := 23) d_jdk_65_method_123_22 rfl rfl rfl ?_
  refine WP.arraylengthI (z := (n : Nat).toInt32) (pc' := 24) d_jdk_65_method_123_23 rfl V5 rfl ?_
  refine WP.iloadN (pc' := 25) d_jdk_65_method_123_24 rfl rfl ?_
  refine WP.callS (argsL := [(.int (n : Nat).toInt32), (.int p)]) (rest := [(.int (0 : Int32)), (.ref b1), (.int (0 : Int32)), (.ref a)]) (wd := 4) (cl' := 1) (sl' := 128) (pc' := 28) d_jdk_65_method_123_25 rfl (wd49 hw) (wd50 hw) (wd39 hw) (wd51 hw) (by decide) (m_minI hw (n : Nat).toInt32 p h1 n0) pd_0 rfl rfl rfl (Nat.le_of_eq rfl) (by decide) (by decide) rfl rfl (by decide) (by decide) ?_
  rintro v hh8 ⟨rfl, he8⟩
  rw [he8]
  refine WP.castS (st' := [(.int (minI (n : Nat).toInt32 p)), (.int (0 : Int32)), (.ref b1), (.int (0 : Int32)), (.ref a)]) rfl ?_
  refine WP.arraycopy (wd := 0) (sp := 0) (dp := 0) (nn := n) (pc' := 31) d_jdk_65_method_123_28 rfl (wd52 hw) (wd55 hw) (wd53 hw) (wd54 hw) V5 A1 rfl rfl rfl (by rw [minI_v, natI (by omega), hp]; omega) (by omega) (by omega) ge2 rfl (by decide) (Nat.le_of_eq rfl) (by decide) ?_
  intro h9 K9 A9
  have V10 := V5.keep K9 (ninS ne4 nin0)
  have K11 := K6.trans K9 (allS (Or.inr sz3) all0)
  have Z12 : n0 ≤ h9.size := Nat.le_trans Z7 K9.1
  refine WP.aloadN (pc' := 32) d_jdk_65_method_123_31 rfl rfl rfl ?_
  refine WP.aret d_jdk_65_method_123_32 rfl rfl rfl (by decide) (by decide) ⟨_, rfl, K11, ge2, sz3, (A9).congr fun i hi => if q : i < n then (by unfold blit; rw [if_pos ⟨by omega, by omega⟩, if_pos q]; congr 1; omega) else (by unfold blit; rw [if_neg (by omega), if_neg q])⟩
set_option maxRecDepth 65536 in
set_option maxHeartbeats 40000000 in
theorem m_keep2 {Z : State} {a0 : Array Value} (hw : ∀ d ∈ tables_1, d.before a0 Z = true) (a : Addr) (p : Int32) (ln : Addr) (pe : Int32) (k : Addr) (u : Int64) (h0 : Heap) (n0 : Nat) (bb sb eb : Addr) (us lo ct : Int32) (inc exs : Int64) (ne nl : Nat) (E : Nat → Int32) (R0 : Rep Z n0 h0 a bb sb eb ln us lo ct inc exs 4096 ne nl E) (ki : Addr) (S_INC : Sta Z Z.heap "com/example/tallyfold/tallyfold/Entry$Kind" "INCOME" "Lcom/example/tallyfold/tallyfold/Entry$Kind;" (.ref ki)) (N U len : Nat) (hp : p.toInt = (N : Int)) (hU : us.toInt = (U : Int)) (hl : pe.toInt = (len : Int)) (hN1 : 1 ≤ N) (hN2 : N ≤ 128) (hlen : 1 ≤ len) (hlen2 : len ≤ nl) (hlen3 : len ≤ 10) (hU2 : U ≤ 100) (S : Int) (hB : Bd S inc exs) (hu : 0 ≤ u.toInt) (h3 : S + u.toInt ≤ 4611686018427387904) (hne : ne ≤ 64) : ∀ l, Does l Z (⟨"com/example/tallyfold/tallyfold/EntryLines", "keep", "(I[BIILcom/example/tallyfold/tallyfold/Entry$Kind;J)Z"⟩ : MethodName) prog_24_method_2_code 13 (some .boolean) ({ frames := 2, cells := 2, slots := 256, locals := 33 } : Room) n0 #[(.ref a), (.int p), (.ref ln), (.int (0 : Int32)), (.int pe), (.ref k), (.long u)] h0 (fun v h => v = some (.int 1) ∧ ∃ (bb sb eb : Addr) (inc' exs' : Int64) (ne' : Nat), Rep Z n0 h a bb sb eb ln (us + pe) lo (ct + 1) inc' exs' 4096 ne' nl (updI E (N - 1) (us + pe)) ∧ Bd (S + u.toInt) inc' exs' ∧ N ≤ ne' ∧ ne ≤ ne' ∧ ne' ≤ max N (max (2 * ne) 16)) := by
  intro l
  refine Does.of_wp (plainFor_of_name pn_0) (Ls := #[.val (.ref a), .val (.int p), .val (.ref ln), .val (.int (0 : Int32)), .val (.int pe), .val (.ref k), .val (.long u), .second, .unset, .unset, .unset, .unset, .unset]) (fun m => by first | (simp [entryFrame, mkF, argsToLocals, Value.category]; done) | rfl) ?_
  intro C
  obtain ⟨O0, ⟨E0, F_bytes, F_used, F_starts, F_ends, F_lowest, F_count, F_income, F_expenses⟩, ⟨⟨gB, B0⟩, ⟨gS, S0⟩, ⟨gE, D0, hE⟩, ⟨gL, L0⟩⟩, ⟨g_a, g_bb, g_sb, g_eb⟩, ⟨n_bb_sb, n_bb_eb, n_sb_eb, n_a_bb, n_a_sb, n_a_eb, n_ln_a, n_ln_bb, n_ln_sb, n_ln_eb⟩, hZ0⟩ := R0
  have Z0 : n0 ≤ h0.size := by have := O0.2.1; rw [O0.1] at this; exact this
  refine WP.aload (pc' := 2) d_prog_24_method_2_0 rfl rfl rfl ?_
  refine WP.getS (pc' := 5) d_prog_24_method_2_2 rfl (host := "") (Or.inl (wd27 hw)) Via.refl (S_INC.ext O0.2) ?_
  refine WP.acmp_ne (pc1 := 15) (pc2 := 8) d_prog_24_method_2_5 rfl rfl (by decide) (by decide) rfl ?_ ?_
  · intro hc5
    refine WP.aloadN (pc' := 16) d_prog_24_method_2_15 rfl rfl rfl ?_
    refine WP.getF (pc' := 19) d_prog_24_method_2_16 rfl (host := "") (Or.inl (wd29 hw)) Via.refl F_expenses ?_
    refine WP.lstore (pc' := 21) d_prog_24_method_2_19 rfl (Ls' := #[.val (.ref a), .val (.int p), .val (.ref ln), .val (.int (0 : Int32)), .val (.int pe), .val (.ref k), .val (.long u), .second, .val (.long exs), .second, .unset, .unset, .unset]) rfl ?_
    refine WP.iload (pc' := 23) d_prog_24_method_2_21 rfl rfl ?_
    refine WP.iloadN (pc' := 24) d_prog_24_method_2_23 rfl rfl ?_
    refine WP.isub (pc' := 25) d_prog_24_method_2_24 rfl ?_
    rw [sub0 pe]
    refine WP.istore (pc' := 27) d_prog_24_method_2_25 rfl (Ls' := #[.val (.ref a), .val (.int p), .val (.ref ln), .val (.int (0 : Int32)), .val (.int pe), .val (.ref k), .val (.long u), .second, .val (.long exs), .second, .val (.int pe), .unset, .unset]) rfl ?_
    refine WP.lload (pc' := 29) d_prog_24_method_2_27 rfl rfl ?_
    refine WP.ldc2J (pc' := 32) d_prog_24_method_2_29 rfl (wd31 hw) ?_
    refine WP.lload (pc' := 34) d_prog_24_method_2_32 rfl rfl ?_
    refine WP.lsub (pc' := 35) d_prog_24_method_2_34 rfl ?_
    have hc35 : ¬ ((9223372036854775807 : Int64) - exs) < u := sum_ok hB.2.2.1 hB.2.2.2 h3
    refine WP.lcmp_gt (pc' := 36) (pc1 := 51) (pc2 := 39) d_prog_24_method_2_35 rfl d_prog_24_method_2_36 (by decide) (by decide) rfl (fun k => absurd k hc35) (fun _ => ?_)
    refine WP.iload (pc' := 41) d_prog_24_method_2_39 rfl rfl ?_
    refine WP.ldcI (pc' := 43) d_prog_24_method_2_41 rfl (wd32 hw) ?_
    refine WP.aloadN (pc' := 44) d_prog_24_method_2_43 rfl rfl rfl ?_
    refine WP.getF (pc' := 47) d_prog_24_method_2_44 rfl (host := "") (Or.inl (wd33 hw)) Via.refl F_used ?_
    refine WP.isub (pc' := 48) d_prog_24_method_2_47 rfl ?_
    have hc48 : ¬ ((2147483631 : Int32) - us) < pe := room_ok hU hl (by omega) (by omega)
    refine WP.icmp_le (pc1 := 53) (pc2 := 51) d_prog_24_method_2_48 (by decide) (by decide) rfl (fun _ => ?_) (fun k => absurd k hc48)
    refine WP.aloadN (pc' := 54) d_prog_24_method_2_53 rfl rfl rfl ?_
    refine WP.getF (pc' := 57) d_prog_24_method_2_54 rfl (host := "") (Or.inl (wd33 hw)) Via.refl F_used ?_
    refine WP.iload (pc' := 59) d_prog_24_method_2_57 rfl rfl ?_
    refine WP.iadd (pc' := 60) d_prog_24_method_2_59 rfl ?_
    refine WP.aloadN (pc' := 61) d_prog_24_method_2_60 rfl rfl rfl ?_
    refine WP.getF (pc' := 64) d_prog_24_method_2_61 rfl (host := "") (Or.inl (wd15 hw)) Via.refl F_bytes ?_
    refine WP.arraylengthI (z := (4096 : Int32)) (pc' := 65) d_prog_24_method_2_64 rfl B0 rfl ?_
    have hc65 : ¬ (4096 : Int32) < (us + pe) := by rw [Int32.lt_iff_toInt_lt, adds hU hl (by omega), show (4096 : Int32).toInt = 4096 from rfl]; omega
    refine WP.icmp_le (pc1 := 117) (pc2 := 68) d_prog_24_method_2_65 (by decide) (by decide) rfl (fun _ => ?_) (fun k => absurd k hc65)
    refine WP.iloadN (pc' := 118) d_prog_24_method_2_117 rfl rfl ?_
    refine WP.aloadN (pc' := 119) d_prog_24_method_2_118 rfl rfl rfl ?_
    refine WP.getF (pc' := 122) d_prog_24_method_2_119 rfl (host := "") (Or.inl (wd20 hw)) Via.refl F_ends ?_
    refine WP.arraylengthI (z := (ne : Nat).toInt32) (pc' := 123) d_prog_24_method_2_122 rfl D0 rfl ?_
    refine WP.icmp_le (pc1 := 170) (pc2 := 126) d_prog_24_method_2_123 (by decide) (by decide) rfl ?_ ?_
    · intro hc123
      have lt1 : N - 1 < ne := by rw [Int32.lt_iff_toInt_lt, hp, natI (by omega)] at hc123; omega
      refine WP.aloadN (pc' := 171) d_prog_24_method_2_170 rfl rfl rfl ?_
      refine WP.iloadN (pc' := 172) d_prog_24_method_2_171 rfl rfl ?_
      refine WP.aloadN (pc' := 173) d_prog_24_method_2_172 rfl rfl rfl ?_
      refine WP.getF (pc' := 176) d_prog_24_method_2_173 rfl (host := "") (Or.inl (wd15 hw)) Via.refl F_bytes ?_
      refine WP.aloadN (pc' := 177) d_prog_24_method_2_176 rfl rfl rfl ?_
      refine WP.getF (pc' := 180) d_prog_24_method_2_177 rfl (host := "") (Or.inl (wd33 hw)) Via.refl F_used ?_
      refine WP.iload (pc' := 182) d_prog_24_method_2_180 rfl rfl ?_
      refine WP.arraycopy (wd := 0) (sp := 0) (dp := U) (nn := len) (pc' := 185) d_prog_24_method_2_182 rfl (wd62 hw) (wd55 hw) (wd53 hw) (wd54 hw) L0 B0 rfl rfl hU hl (by omega) (by omega) g_bb rfl (by decide) (Nat.le_of_eq rfl) (by decide) ?_
      intro h1 K1 A1
      have E2 := E0.keep K1
      have F3 := F_bytes.keep K1 (ninS n_a_bb nin0)
      have F4 := F_used.keep K1 (ninS n_a_bb nin0)
      have F5 := F_starts.keep K1 (ninS n_a_bb nin0)
      have F6 := F_ends.keep K1 (ninS n_a_bb nin0)
      have F7 := F_lowest.keep K1 (ninS n_a_bb nin0)
      have F8 := F_count.keep K1 (ninS n_a_bb nin0)
      have F9 := F_income.keep K1 (ninS n_a_bb nin0)
      have F10 := F_expenses.keep K1 (ninS n_a_bb nin0)
      have V11 := S0.keep K1 (ninS (Ne.symm n_bb_sb) nin0)
      have V12 := D0.keep K1 (ninS (Ne.symm n_bb_eb) nin0)
      have V13 := L0.keep K1 (ninS n_ln_bb nin0)
      have O14 := O0.keep K1 (allS g_bb all0)
      have Z15 : n0 ≤ h1.size := Nat.le_trans Z0 K1.1
      refine WP.aloadN (pc' := 186) d_prog_24_method_2_185 rfl rfl rfl ?_
      refine WP.getF (pc' := 189) d_prog_24_method_2_186 rfl (host := "") (Or.inl (wd18 hw)) Via.refl F5 ?_
      refine WP.iloadN (pc' := 190) d_prog_24_method_2_189 rfl rfl ?_
      refine WP.iconst (pc' := 191) d_prog_24_method_2_190 rfl (z := 1) rfl ?_
      refine WP.isub (pc' := 192) d_prog_24_method_2_191 rfl ?_
      refine WP.aloadN (pc' := 193) d_prog_24_method_2_192 rfl rfl rfl ?_
      refine WP.getF (pc' := 196) d_prog_24_method_2_193 rfl (host := "") (Or.inl (wd33 hw)) Via.refl F4 ?_
      refine WP.iastoreI (x' := us) (N - 1) (pc' := 197) d_prog_24_method_2_196 rfl V11 (pred hp (by omega)) lt1 g_sb rfl ?_
      intro h16 K17 A18
      have E19 := E2.keep K17
      have F20 := F3.keep K17 (ninS n_a_sb nin0)
      have F21 := F4.keep K17 (ninS n_a_sb nin0)
      have F22 := F5.keep K17 (ninS n_a_sb nin0)
      have F23 := F6.keep K17 (ninS n_a_sb nin0)
      have F24 := F7.keep K17 (ninS n_a_sb nin0)
      have F25 := F8.keep K17 (ninS n_a_sb nin0)
      have F26 := F9.keep K17 (ninS n_a_sb nin0)
      have F27 := F10.keep K17 (ninS n_a_sb nin0)
      have V28 := V12.keep K17 (ninS (Ne.symm n_sb_eb) nin0)
      have V29 := V13.keep K17 (ninS n_ln_sb nin0)
      have V30 := A1.keep K17 (ninS n_bb_sb nin0)
      have O31 := O14.keep K17 (allS g_sb all0)
      have Z32 : n0 ≤ h16.size := Nat.le_trans Z15 K17.1
      refine WP.aloadN (pc' := 198) d_prog_24_method_2_197 rfl rfl rfl ?_
      refine WP.dup (pc' := 199) d_prog_24_method_2_198 rfl rfl ?_
      refine WP.getF (pc' := 202) d_prog_24_method_2_199 rfl (host := "") (Or.inl (wd33 hw)) Via.refl F21 ?_
      refine WP.iload (pc' := 204) d_prog_24_method_2_202 rfl rfl ?_
      refine WP.iadd (pc' := 205) d_prog_24_method_2_204 rfl ?_
      refine WP.putF (pc' := 208) d_prog_24_method_2_205 rfl (host := "") (Or.inl (wd33 hw)) Via.refl F21 E19 (Or.inl (wd34 hw)) (wd7 hw) (ty := .int) (by decide) rfl rfl g_a ?_
      intro h33 W34
      have Kw35 := Keep.of_wr W34
      have E36 := E19.keep Kw35
      have V37 := V28.keep Kw35 (ninS (Ne.symm n_a_eb) nin0)
      have V38 := V29.keep Kw35 (ninS n_ln_a nin0)
      have V39 := V30.keep Kw35 (ninS (Ne.symm n_a_bb) nin0)
      have V40 := A18.keep Kw35 (ninS (Ne.symm n_a_sb) nin0)
      have O41 := O31.keep Kw35 (allS g_a all0)
      have Z42 : n0 ≤ h33.size := Nat.le_trans Z32 Kw35.1
      have F43 := F20.other W34 (Or.inr (slot_ne (Or.inl (wd16 hw)) (Or.inl (wd34 hw)) (by decide) (t := (.array .byte)) (t' := .int) (by decide) (by decide)))
      have F44 := F21.same W34
      have F45 := F22.other W34 (Or.inr (slot_ne (Or.inl (wd19 hw)) (Or.inl (wd34 hw)) (by decide) (t := (.array .int)) (t' := .int) (by decide) (by decide)))
      have F46 := F23.other W34 (Or.inr (slot_ne (Or.inl (wd21 hw)) (Or.inl (wd34 hw)) (by decide) (t := (.array .int)) (t' := .int) (by decide) (by decide)))
      have F47 := F24.other W34 (Or.inr (slot_ne (Or.inl (wd76 hw)) (Or.inl (wd34 hw)) (by decide) (t := .int) (t' := .int) (by decide) (by decide)))
      have F48 := F25.other W34 (Or.inr (slot_ne (Or.inl (wd64 hw)) (Or.inl (wd34 hw)) (by decide) (t := .int) (t' := .int) (by decide) (by decide)))
      have F49 := F26.other W34 (Or.inr (slot_ne (Or.inl (wd79 hw)) (Or.inl (wd34 hw)) (by decide) (t := .long) (t' := .int) (by decide) (by decide)))
      have F50 := F27.other W34 (Or.inr (slot_ne (Or.inl (wd30 hw)) (Or.inl (wd34 hw)) (by decide) (t := .long) (t' := .int) (by decide) (by decide)))
      refine WP.aloadN (pc' := 209) d_prog_24_method_2_208 rfl rfl rfl ?_
      refine WP.getF (pc' := 212) d_prog_24_method_2_209 rfl (host := "") (Or.inl (wd20 hw)) Via.refl F46 ?_
      refine WP.iloadN (pc' := 213) d_prog_24_method_2_212 rfl rfl ?_
      refine WP.iconst (pc' := 214) d_prog_24_method_2_213 rfl (z := 1) rfl ?_
      refine WP.isub (pc' := 215) d_prog_24_method_2_214 rfl ?_
      refine WP.aloadN (pc' := 216) d_prog_24_method_2_215 rfl rfl rfl ?_
      refine WP.getF (pc' := 219) d_prog_24_method_2_216 rfl (host := "") (Or.inl (wd33 hw)) Via.refl F44 ?_
      refine WP.iastoreI (x' := (us + pe)) (N - 1) (pc' := 220) d_prog_24_method_2_219 rfl V37 (pred hp (by omega)) lt1 g_eb rfl ?_
      intro h51 K52 A53
      have E54 := E36.keep K52
      have V55 := V38.keep K52 (ninS n_ln_eb nin0)
      have V56 := V39.keep K52 (ninS n_bb_eb nin0)
      have V57 := V40.keep K52 (ninS n_sb_eb nin0)
      have F58 := F43.keep K52 (ninS n_a_eb nin0)
      have F59 := F44.keep K52 (ninS n_a_eb nin0)
      have F60 := F45.keep K52 (ninS n_a_eb nin0)
      have F61 := F46.keep K52 (ninS n_a_eb nin0)
      have F62 := F47.keep K52 (ninS n_a_eb nin0)
      have F63 := F48.keep K52 (ninS n_a_eb nin0)
      have F64 := F49.keep K52 (ninS n_a_eb nin0)
      have F65 := F50.keep K52 (ninS n_a_eb nin0)
      have O66 := O41.keep K52 (allS g_eb all0)
      have Z67 : n0 ≤ h51.size := Nat.le_trans Z42 K52.1
      refine WP.aload (pc' := 222) d_prog_24_method_2_220 rfl rfl rfl ?_
      refine WP.getS (pc' := 225) d_prog_24_method_2_222 rfl (host := "") (Or.inl (wd27 hw)) Via.refl (S_INC.ext O66.2) ?_
      have hc225 : ¬ ((.ref k) : Value) = (.ref ki) := hc5
      refine WP.acmp_ne (pc1 := 242) (pc2 := 228) d_prog_24_method_2_225 rfl rfl (by decide) (by decide) rfl (fun _ => ?_) (fun k => absurd k hc225)
      refine WP.aloadN (pc' := 243) d_prog_24_method_2_242 rfl rfl rfl ?_
      refine WP.dup (pc' := 244) d_prog_24_method_2_243 rfl rfl ?_
      refine WP.getF (pc' := 247) d_prog_24_method_2_244 rfl (host := "") (Or.inl (wd29 hw)) Via.refl F65 ?_
      refine WP.lload (pc' := 249) d_prog_24_method_2_247 rfl rfl ?_
      refine WP.ladd (pc' := 250) d_prog_24_method_2_249 rfl ?_
      refine WP.putF (pc' := 253) d_prog_24_method_2_250 rfl (host := "") (Or.inl (wd29 hw)) Via.refl F65 E54 (Or.inl (wd30 hw)) (wd7 hw) (ty := .long) (by decide) rfl rfl g_a ?_
      intro h68 W69
      have Kw70 := Keep.of_wr W69
      have E71 := E54.keep Kw70
      have V72 := V55.keep Kw70 (ninS n_ln_a nin0)
      have V73 := V56.keep Kw70 (ninS (Ne.symm n_a_bb) nin0)
      have V74 := V57.keep Kw70 (ninS (Ne.symm n_a_sb) nin0)
      have V75 := A53.keep Kw70 (ninS (Ne.symm n_a_eb) nin0)
      have O76 := O66.keep Kw70 (allS g_a all0)
      have Z77 : n0 ≤ h68.size := Nat.le_trans Z67 Kw70.1
      have F78 := F58.other W69 (Or.inr (slot_ne (Or.inl (wd16 hw)) (Or.inl (wd30 hw)) (by decide) (t := (.array .byte)) (t' := .long) (by decide) (by decide)))
      have F79 := F59.other W69 (Or.inr (slot_ne (Or.inl (wd34 hw)) (Or.inl (wd30 hw)) (by decide) (t := .int) (t' := .long) (by decide) (by decide)))
      have F80 := F60.other W69 (Or.inr (slot_ne (Or.inl (wd19 hw)) (Or.inl (wd30 hw)) (by decide) (t := (.array .int)) (t' := .long) (by decide) (by decide)))
      have F81 := F61.other W69 (Or.inr (slot_ne (Or.inl (wd21 hw)) (Or.inl (wd30 hw)) (by decide) (t := (.array .int)) (t' := .long) (by decide) (by decide)))
      have F82 := F62.other W69 (Or.inr (slot_ne (Or.inl (wd76 hw)) (Or.inl (wd30 hw)) (by decide) (t := .int) (t' := .long) (by decide) (by decide)))
      have F83 := F63.other W69 (Or.inr (slot_ne (Or.inl (wd64 hw)) (Or.inl (wd30 hw)) (by decide) (t := .int) (t' := .long) (by decide) (by decide)))
      have F84 := F64.other W69 (Or.inr (slot_ne (Or.inl (wd79 hw)) (Or.inl (wd30 hw)) (by decide) (t := .long) (t' := .long) (by decide) (by decide)))
      have F85 := F65.same W69
      refine WP.aloadN (pc' := 254) d_prog_24_method_2_253 rfl rfl rfl ?_
      refine WP.dup (pc' := 255) d_prog_24_method_2_254 rfl rfl ?_
      refine WP.getF (pc' := 258) d_prog_24_method_2_255 rfl (host := "") (Or.inl (wd63 hw)) Via.refl F83 ?_
      refine WP.iconst (pc' := 259) d_prog_24_method_2_258 rfl (z := 1) rfl ?_
      refine WP.iadd (pc' := 260) d_prog_24_method_2_259 rfl ?_
      refine WP.putF (pc' := 263) d_prog_24_method_2_260 rfl (host := "") (Or.inl (wd63 hw)) Via.refl F83 E71 (Or.inl (wd64 hw)) (wd7 hw) (ty := .int) (by decide) rfl rfl g_a ?_
      intro h86 W87
      have Kw88 := Keep.of_wr W87
      have E89 := E71.keep Kw88
      have V90 := V72.keep Kw88 (ninS n_ln_a nin0)
      have V91 := V73.keep Kw88 (ninS (Ne.symm n_a_bb) nin0)
      have V92 := V74.keep Kw88 (ninS (Ne.symm n_a_sb) nin0)
      have V93 := V75.keep Kw88 (ninS (Ne.symm n_a_eb) nin0)
      have O94 := O76.keep Kw88 (allS g_a all0)
      have Z95 : n0 ≤ h86.size := Nat.le_trans Z77 Kw88.1
      have F96 := F78.other W87 (Or.inr (slot_ne (Or.inl (wd16 hw)) (Or.inl (wd64 hw)) (by decide) (t := (.array .byte)) (t' := .int) (by decide) (by decide)))
      have F97 := F79.other W87 (Or.inr (slot_ne (Or.inl (wd34 hw)) (Or.inl (wd64 hw)) (by decide) (t := .int) (t' := .int) (by decide) (by decide)))
      have F98 := F80.other W87 (Or.inr (slot_ne (Or.inl (wd19 hw)) (Or.inl (wd64 hw)) (by decide) (t := (.array .int)) (t' := .int) (by decide) (by decide)))
      have F99 := F81.other W87 (Or.inr (slot_ne (Or.inl (wd21 hw)) (Or.inl (wd64 hw)) (by decide) (t := (.array .int)) (t' := .int) (by decide) (by decide)))
      have F100 := F82.other W87 (Or.inr (slot_ne (Or.inl (wd76 hw)) (Or.inl (wd64 hw)) (by decide) (t := .int) (t' := .int) (by decide) (by decide)))
      have F101 := F83.same W87
      have F102 := F84.other W87 (Or.inr (slot_ne (Or.inl (wd79 hw)) (Or.inl (wd64 hw)) (by decide) (t := .long) (t' := .int) (by decide) (by decide)))
      have F103 := F85.other W87 (Or.inr (slot_ne (Or.inl (wd30 hw)) (Or.inl (wd64 hw)) (by decide) (t := .long) (t' := .int) (by decide) (by decide)))
      refine WP.iconst (pc' := 264) d_prog_24_method_2_263 rfl (z := 1) rfl ?_
      refine WP.nret (t := .boolean) d_prog_24_method_2_264 rfl (by simp) rfl (by decide) (by decide) ⟨rfl, _, _, _, _, _, _, ⟨O94, ⟨E89, F96, F97, F98, F99, F100, F101, F102, F103⟩, ⟨⟨_, V91⟩, ⟨_, V92⟩, ⟨_, V93, fun i hi => if q : i = N - 1 then (by unfold updI; rw [if_pos q, if_pos q]) else (by unfold updI; rw [if_neg q, if_neg q]; exact hE i hi)⟩, ⟨_, V90⟩⟩, ⟨g_a, g_bb, g_sb, g_eb⟩, ⟨n_bb_sb, n_bb_eb, n_sb_eb, n_a_bb, n_a_sb, n_a_eb, n_ln_a, n_ln_bb, n_ln_sb, n_ln_eb⟩, fun i hi => by unfold updI; rw [if_neg (by omega)]; exact hZ0 i (by omega)⟩, (sum_bd hB hu h3).2, by omega, by omega, by omega⟩
    · intro hc123
      refine WP.iloadN (pc' := 127) d_prog_24_method_2_126 rfl rfl ?_
      refine WP.iconst (pc' := 128) d_prog_24_method_2_127 rfl (z := 2) rfl ?_
      refine WP.aloadN (pc' := 129) d_prog_24_method_2_128 rfl rfl rfl ?_
      refine WP.getF (pc' := 132) d_prog_24_method_2_129 rfl (host := "") (Or.inl (wd20 hw)) Via.refl F_ends ?_
      refine WP.arraylengthI (z := (ne : Nat).toInt32) (pc' := 133) d_prog_24_method_2_132 rfl D0 rfl ?_
      refine WP.imul (pc' := 134) d_prog_24_method_2_133 rfl ?_
      refine WP.bipush (pc' := 136) d_prog_24_method_2_134 rfl (z := 16) rfl ?_
      refine WP.callS (argsL := [(.int ((2 : Int32) * (ne : Nat).toInt32)), (.int (16 : Int32))]) (rest := [(.int p)]) (wd := 1) (cl' := 0) (sl' := 0) (pc' := 139) d_prog_24_method_2_136 rfl (wd56 hw) (wd57 hw) (wd39 hw) (wd58 hw) (by decide) (m_maxI hw ((2 : Int32) * (ne : Nat).toInt32) (16 : Int32) h0 n0) pd_0 rfl rfl rfl (Nat.le_of_eq rfl) (by decide) (by decide) rfl rfl (by decide) (by decide) ?_
      rintro v hh104 ⟨rfl, he104⟩
      rw [he104]
      refine WP.castS (st' := [(.int (maxI ((2 : Int32) * (ne : Nat).toInt32) (16 : Int32))), (.int p)]) rfl ?_
      refine WP.callS (argsL := [(.int p), (.int (maxI ((2 : Int32) * (ne : Nat).toInt32) (16 : Int32)))]) (rest := []) (wd := 0) (cl' := 0) (sl' := 0) (pc' := 142) d_prog_24_method_2_139 rfl (wd56 hw) (wd57 hw) (wd39 hw) (wd58 hw) (by decide) (m_maxI hw p (maxI ((2 : Int32) * (ne : Nat).toInt32) (16 : Int32)) h0 n0) pd_0 rfl rfl rfl (Nat.le_of_eq rfl) (by decide) (by decide) rfl rfl (by decide) (by decide) ?_
      rintro v hh105 ⟨rfl, he105⟩
      rw [he105]
      refine WP.castS (st' := [(.int (maxI p (maxI ((2 : Int32) * (ne : Nat).toInt32) (16 : Int32))))]) rfl ?_
      generalize ht106 : (maxI p (maxI ((2 : Int32) * (ne : Nat).toInt32) (16 : Int32))) = t106
      refine WP.istore (pc' := 144) d_prog_24_method_2_142 rfl (Ls' := #[.val (.ref a), .val (.int p), .val (.ref ln), .val (.int (0 : Int32)), .val (.int pe), .val (.ref k), .val (.long u), .second, .val (.long exs), .second, .val (.int pe), .val (.int t106), .unset]) rfl ?_
      obtain ⟨M, hM⟩ : ∃ M : Nat, M = max N (max (2 * ne) 16) := ⟨_, rfl⟩
      have hMv : t106.toInt = (M : Int) := by rw [← ht106, maxI_v, maxI_v, hp, twice (by omega), show (16 : Int32).toInt = 16 from rfl]; omega
      refine WP.aloadN (pc' := 145) d_prog_24_method_2_144 rfl rfl rfl ?_
      refine WP.aloadN (pc' := 146) d_prog_24_method_2_145 rfl rfl rfl ?_
      refine WP.getF (pc' := 149) d_prog_24_method_2_146 rfl (host := "") (Or.inl (wd18 hw)) Via.refl F_starts ?_
      refine WP.iload (pc' := 151) d_prog_24_method_2_149 rfl rfl ?_
      refine WP.callS (argsL := [(.ref sb), (.int t106)]) (rest := [(.ref a)]) (wd := 1) (cl' := 1) (sl' := 128) (pc' := 154) d_prog_24_method_2_151 rfl (wd59 hw) (wd60 hw) (wd47 hw) (wd61 hw) (by decide) (m_cpI128 hw sb t106 h0 n0 Z0 gS (ne) (M) S0 hMv (by rw [hM]; rw [Int32.lt_iff_toInt_lt, hp, natI (by omega)] at hc123; omega) (by omega)) pd_3 rfl rfl rfl (Nat.le_of_eq rfl) (by decide) (by decide) rfl rfl (by decide) (by decide) ?_
      rintro v h107 ⟨c107, rfl, K107, ge107, sz107, A107⟩
      have ne108 : a ≠ c107 := Nat.ne_of_lt (Nat.lt_of_lt_of_le E0.lt sz107)
      have ne109 : bb ≠ c107 := Nat.ne_of_lt (Nat.lt_of_lt_of_le B0.lt sz107)
      have ne110 : sb ≠ c107 := Nat.ne_of_lt (Nat.lt_of_lt_of_le S0.lt sz107)
      have ne111 : eb ≠ c107 := Nat.ne_of_lt (Nat.lt_of_lt_of_le D0.lt sz107)
      have ne112 : ln ≠ c107 := Nat.ne_of_lt (Nat.lt_of_lt_of_le L0.lt sz107)
      have E113 := E0.keep K107
      have F114 := F_bytes.keep K107 nin0
      have F115 := F_used.keep K107 nin0
      have F116 := F_starts.keep K107 nin0
      have F117 := F_ends.keep K107 nin0
      have F118 := F_lowest.keep K107 nin0
      have F119 := F_count.keep K107 nin0
      have F120 := F_income.keep K107 nin0
      have F121 := F_expenses.keep K107 nin0
      have V122 := B0.keep K107 nin0
      have V123 := S0.keep K107 nin0
      have V124 := D0.keep K107 nin0
      have V125 := L0.keep K107 nin0
      have O126 := O0.keep K107 all0
      have Z127 : n0 ≤ h107.size := Nat.le_trans Z0 K107.1
      refine WP.castS (st' := [(.ref c107), (.ref a)]) rfl ?_
      refine WP.putF (pc' := 157) d_prog_24_method_2_154 rfl (host := "") (Or.inl (wd18 hw)) Via.refl F116 E113 (Or.inl (wd19 hw)) (wd7 hw) (ty := (.array .int)) (by decide) rfl rfl g_a ?_
      intro h128 W129
      have Kw130 := Keep.of_wr W129
      have E131 := E113.keep Kw130
      have V132 := V122.keep Kw130 (ninS (Ne.symm n_a_bb) nin0)
      have V133 := V123.keep Kw130 (ninS (Ne.symm n_a_sb) nin0)
      have V134 := V124.keep Kw130 (ninS (Ne.symm n_a_eb) nin0)
      have V135 := V125.keep Kw130 (ninS n_ln_a nin0)
      have V136 := A107.keep Kw130 (ninS (Ne.symm ne108) nin0)
      have O137 := O126.keep Kw130 (allS g_a all0)
      have Z138 : n0 ≤ h128.size := Nat.le_trans Z127 Kw130.1
      have F139 := F114.other W129 (Or.inr (slot_ne (Or.inl (wd16 hw)) (Or.inl (wd19 hw)) (by decide) (t := (.array .byte)) (t' := (.array .int)) (by decide) (by decide)))
      have F140 := F115.other W129 (Or.inr (slot_ne (Or.inl (wd34 hw)) (Or.inl (wd19 hw)) (by decide) (t := .int) (t' := (.array .int)) (by decide) (by decide)))
      have F141 := F116.same W129
      have F142 := F117.other W129 (Or.inr (slot_ne (Or.inl (wd21 hw)) (Or.inl (wd19 hw)) (by decide) (t := (.array .int)) (t' := (.array .int)) (by decide) (by decide)))
      have F143 := F118.other W129 (Or.inr (slot_ne (Or.inl (wd76 hw)) (Or.inl (wd19 hw)) (by decide) (t := .int) (t' := (.array .int)) (by decide) (by decide)))
      have F144 := F119.other W129 (Or.inr (slot_ne (Or.inl (wd64 hw)) (Or.inl (wd19 hw)) (by decide) (t := .int) (t' := (.array .int)) (by decide) (by decide)))
      have F145 := F120.other W129 (Or.inr (slot_ne (Or.inl (wd79 hw)) (Or.inl (wd19 hw)) (by decide) (t := .long) (t' := (.array .int)) (by decide) (by decide)))
      have F146 := F121.other W129 (Or.inr (slot_ne (Or.inl (wd30 hw)) (Or.inl (wd19 hw)) (by decide) (t := .long) (t' := (.array .int)) (by decide) (by decide)))
      refine WP.aloadN (pc' := 158) d_prog_24_method_2_157 rfl rfl rfl ?_
      refine WP.aloadN (pc' := 159) d_prog_24_method_2_158 rfl rfl rfl ?_
      refine WP.getF (pc' := 162) d_prog_24_method_2_159 rfl (host := "") (Or.inl (wd20 hw)) Via.refl F142 ?_
      refine WP.iload (pc' := 164) d_prog_24_method_2_162 rfl rfl ?_
      refine WP.callS (argsL := [(.ref eb), (.int t106)]) (rest := [(.ref a)]) (wd := 1) (cl' := 2) (sl' := 256) (pc' := 167) d_prog_24_method_2_164 rfl (wd59 hw) (wd60 hw) (wd47 hw) (wd61 hw) (by decide) (m_cpI128 hw eb t106 h128 n0 Z138 gE (ne) (M) V134 hMv (by rw [hM]; rw [Int32.lt_iff_toInt_lt, hp, natI (by omega)] at hc123; omega) (by omega)) pd_3 rfl rfl rfl (Nat.le_of_eq rfl) (by decide) (by decide) rfl rfl (by decide) (by decide) ?_
      rintro v h147 ⟨c147, rfl, K147, ge147, sz147, A147⟩
      have ne148 : a ≠ c147 := Nat.ne_of_lt (Nat.lt_of_lt_of_le E131.lt sz147)
      have ne149 : bb ≠ c147 := Nat.ne_of_lt (Nat.lt_of_lt_of_le V132.lt sz147)
      have ne150 : sb ≠ c147 := Nat.ne_of_lt (Nat.lt_of_lt_of_le V133.lt sz147)
      have ne151 : eb ≠ c147 := Nat.ne_of_lt (Nat.lt_of_lt_of_le V134.lt sz147)
      have ne152 : ln ≠ c147 := Nat.ne_of_lt (Nat.lt_of_lt_of_le V135.lt sz147)
      have ne153 : c107 ≠ c147 := Nat.ne_of_lt (Nat.lt_of_lt_of_le V136.lt sz147)
      have E154 := E131.keep K147
      have V155 := V132.keep K147 nin0
      have V156 := V133.keep K147 nin0
      have V157 := V134.keep K147 nin0
      have V158 := V135.keep K147 nin0
      have V159 := V136.keep K147 nin0
      have F160 := F139.keep K147 nin0
      have F161 := F140.keep K147 nin0
      have F162 := F141.keep K147 nin0
      have F163 := F142.keep K147 nin0
      have F164 := F143.keep K147 nin0
      have F165 := F144.keep K147 nin0
      have F166 := F145.keep K147 nin0
      have F167 := F146.keep K147 nin0
      have O168 := O137.keep K147 all0
      have Z169 : n0 ≤ h147.size := Nat.le_trans Z138 K147.1
      refine WP.castS (st' := [(.ref c147), (.ref a)]) rfl ?_
      refine WP.putF (pc' := 170) d_prog_24_method_2_167 rfl (host := "") (Or.inl (wd20 hw)) Via.refl F163 E154 (Or.inl (wd21 hw)) (wd7 hw) (ty := (.array .int)) (by decide) rfl rfl g_a ?_
      intro h170 W171
      have Kw172 := Keep.of_wr W171
      have E173 := E154.keep Kw172
      have V174 := V155.keep Kw172 (ninS (Ne.symm n_a_bb) nin0)
      have V175 := V156.keep Kw172 (ninS (Ne.symm n_a_sb) nin0)
      have V176 := V157.keep Kw172 (ninS (Ne.symm n_a_eb) nin0)
      have V177 := V158.keep Kw172 (ninS n_ln_a nin0)
      have V178 := V159.keep Kw172 (ninS (Ne.symm ne108) nin0)
      have V179 := A147.keep Kw172 (ninS (Ne.symm ne148) nin0)
      have O180 := O168.keep Kw172 (allS g_a all0)
      have Z181 : n0 ≤ h170.size := Nat.le_trans Z169 Kw172.1
      have F182 := F160.other W171 (Or.inr (slot_ne (Or.inl (wd16 hw)) (Or.inl (wd21 hw)) (by decide) (t := (.array .byte)) (t' := (.array .int)) (by decide) (by decide)))
      have F183 := F161.other W171 (Or.inr (slot_ne (Or.inl (wd34 hw)) (Or.inl (wd21 hw)) (by decide) (t := .int) (t' := (.array .int)) (by decide) (by decide)))
      have F184 := F162.other W171 (Or.inr (slot_ne (Or.inl (wd19 hw)) (Or.inl (wd21 hw)) (by decide) (t := (.array .int)) (t' := (.array .int)) (by decide) (by decide)))
      have F185 := F163.same W171
      have F186 := F164.other W171 (Or.inr (slot_ne (Or.inl (wd76 hw)) (Or.inl (wd21 hw)) (by decide) (t := .int) (t' := (.array .int)) (by decide) (by decide)))
      have F187 := F165.other W171 (Or.inr (slot_ne (Or.inl (wd64 hw)) (Or.inl (wd21 hw)) (by decide) (t := .int) (t' := (.array .int)) (by decide) (by decide)))
      have F188 := F166.other W171 (Or.inr (slot_ne (Or.inl (wd79 hw)) (Or.inl (wd21 hw)) (by decide) (t := .long) (t' := (.array .int)) (by decide) (by decide)))
      have F189 := F167.other W171 (Or.inr (slot_ne (Or.inl (wd30 hw)) (Or.inl (wd21 hw)) (by decide) (t := .long) (t' := (.array .int)) (by decide) (by decide)))
      have lt1 : N - 1 < M := by omega
      refine WP.aloadN (pc' := 171) d_prog_24_method_2_170 rfl rfl rfl ?_
      refine WP.iloadN (pc' := 172) d_prog_24_method_2_171 rfl rfl ?_
      refine WP.aloadN (pc' := 173) d_prog_24_method_2_172 rfl rfl rfl ?_
      refine WP.getF (pc' := 176) d_prog_24_method_2_173 rfl (host := "") (Or.inl (wd15 hw)) Via.refl F182 ?_
      refine WP.aloadN (pc' := 177) d_prog_24_method_2_176 rfl rfl rfl ?_
      refine WP.getF (pc' := 180) d_prog_24_method_2_177 rfl (host := "") (Or.inl (wd33 hw)) Via.refl F183 ?_
      refine WP.iload (pc' := 182) d_prog_24_method_2_180 rfl rfl ?_
      refine WP.arraycopy (wd := 0) (sp := 0) (dp := U) (nn := len) (pc' := 185) d_prog_24_method_2_182 rfl (wd62 hw) (wd55 hw) (wd53 hw) (wd54 hw) V177 V174 rfl rfl hU hl (by omega) (by omega) g_bb rfl (by decide) (Nat.le_of_eq rfl) (by decide) ?_
      intro h190 K190 A190
      have E191 := E173.keep K190
      have V192 := V175.keep K190 (ninS (Ne.symm n_bb_sb) nin0)
      have V193 := V176.keep K190 (ninS (Ne.symm n_bb_eb) nin0)
      have V194 := V177.keep K190 (ninS n_ln_bb nin0)
      have V195 := V178.keep K190 (ninS (Ne.symm ne109) nin0)
      have V196 := V179.keep K190 (ninS (Ne.symm ne149) nin0)
      have F197 := F182.keep K190 (ninS n_a_bb nin0)
      have F198 := F183.keep K190 (ninS n_a_bb nin0)
      have F199 := F184.keep K190 (ninS n_a_bb nin0)
      have F200 := F185.keep K190 (ninS n_a_bb nin0)
      have F201 := F186.keep K190 (ninS n_a_bb nin0)
      have F202 := F187.keep K190 (ninS n_a_bb nin0)
      have F203 := F188.keep K190 (ninS n_a_bb nin0)
      have F204 := F189.keep K190 (ninS n_a_bb nin0)
      have O205 := O180.keep K190 (allS g_bb all0)
      have Z206 : n0 ≤ h190.size := Nat.le_trans Z181 K190.1
      refine WP.aloadN (pc' := 186) d_prog_24_method_2_185 rfl rfl rfl ?_
      refine WP.getF (pc' := 189) d_prog_24_method_2_186 rfl (host := "") (Or.inl (wd18 hw)) Via.refl F199 ?_
      refine WP.iloadN (pc' := 190) d_prog_24_method_2_189 rfl rfl ?_
      refine WP.iconst (pc' := 191) d_prog_24_method_2_190 rfl (z := 1) rfl ?_
      refine WP.isub (pc' := 192) d_prog_24_method_2_191 rfl ?_
      refine WP.aloadN (pc' := 193) d_prog_24_method_2_192 rfl rfl rfl ?_
      refine WP.getF (pc' := 196) d_prog_24_method_2_193 rfl (host := "") (Or.inl (wd33 hw)) Via.refl F198 ?_
      refine WP.iastoreI (x' := us) (N - 1) (pc' := 197) d_prog_24_method_2_196 rfl V195 (pred hp (by omega)) lt1 ge107 rfl ?_
      intro h207 K208 A209
      have E210 := E191.keep K208
      have V211 := V192.keep K208 (ninS ne110 nin0)
      have V212 := V193.keep K208 (ninS ne111 nin0)
      have V213 := V194.keep K208 (ninS ne112 nin0)
      have V214 := V196.keep K208 (ninS (Ne.symm ne153) nin0)
      have F215 := F197.keep K208 (ninS ne108 nin0)
      have F216 := F198.keep K208 (ninS ne108 nin0)
      have F217 := F199.keep K208 (ninS ne108 nin0)
      have F218 := F200.keep K208 (ninS ne108 nin0)
      have F219 := F201.keep K208 (ninS ne108 nin0)
      have F220 := F202.keep K208 (ninS ne108 nin0)
      have F221 := F203.keep K208 (ninS ne108 nin0)
      have F222 := F204.keep K208 (ninS ne108 nin0)
      have V223 := A190.keep K208 (ninS ne109 nin0)
      have O224 := O205.keep K208 (allS ge107 all0)
      have Z225 : n0 ≤ h207.size := Nat.le_trans Z206 K208.1
      refine WP.aloadN (pc' := 198) d_prog_24_method_2_197 rfl rfl rfl ?_
      refine WP.dup (pc' := 199) d_prog_24_method_2_198 rfl rfl ?_
      refine WP.getF (pc' := 202) d_prog_24_method_2_199 rfl (host := "") (Or.inl (wd33 hw)) Via.refl F216 ?_
      refine WP.iload (pc' := 204) d_prog_24_method_2_202 rfl rfl ?_
      refine WP.iadd (pc' := 205) d_prog_24_method_2_204 rfl ?_
      refine WP.putF (pc' := 208) d_prog_24_method_2_205 rfl (host := "") (Or.inl (wd33 hw)) Via.refl F216 E210 (Or.inl (wd34 hw)) (wd7 hw) (ty := .int) (by decide) rfl rfl g_a ?_
      intro h226 W227
      have Kw228 := Keep.of_wr W227
      have E229 := E210.keep Kw228
      have V230 := V211.keep Kw228 (ninS (Ne.symm n_a_sb) nin0)
      have V231 := V212.keep Kw228 (ninS (Ne.symm n_a_eb) nin0)
      have V232 := V213.keep Kw228 (ninS n_ln_a nin0)
      have V233 := V214.keep Kw228 (ninS (Ne.symm ne148) nin0)
      have V234 := V223.keep Kw228 (ninS (Ne.symm n_a_bb) nin0)
      have V235 := A209.keep Kw228 (ninS (Ne.symm ne108) nin0)
      have O236 := O224.keep Kw228 (allS g_a all0)
      have Z237 : n0 ≤ h226.size := Nat.le_trans Z225 Kw228.1
      have F238 := F215.other W227 (Or.inr (slot_ne (Or.inl (wd16 hw)) (Or.inl (wd34 hw)) (by decide) (t := (.array .byte)) (t' := .int) (by decide) (by decide)))
      have F239 := F216.same W227
      have F240 := F217.other W227 (Or.inr (slot_ne (Or.inl (wd19 hw)) (Or.inl (wd34 hw)) (by decide) (t := (.array .int)) (t' := .int) (by decide) (by decide)))
      have F241 := F218.other W227 (Or.inr (slot_ne (Or.inl (wd21 hw)) (Or.inl (wd34 hw)) (by decide) (t := (.array .int)) (t' := .int) (by decide) (by decide)))
      have F242 := F219.other W227 (Or.inr (slot_ne (Or.inl (wd76 hw)) (Or.inl (wd34 hw)) (by decide) (t := .int) (t' := .int) (by decide) (by decide)))
      have F243 := F220.other W227 (Or.inr (slot_ne (Or.inl (wd64 hw)) (Or.inl (wd34 hw)) (by decide) (t := .int) (t' := .int) (by decide) (by decide)))
      have F244 := F221.other W227 (Or.inr (slot_ne (Or.inl (wd79 hw)) (Or.inl (wd34 hw)) (by decide) (t := .long) (t' := .int) (by decide) (by decide)))
      have F245 := F222.other W227 (Or.inr (slot_ne (Or.inl (wd30 hw)) (Or.inl (wd34 hw)) (by decide) (t := .long) (t' := .int) (by decide) (by decide)))
      refine WP.aloadN (pc' := 209) d_prog_24_method_2_208 rfl rfl rfl ?_
      refine WP.getF (pc' := 212) d_prog_24_method_2_209 rfl (host := "") (Or.inl (wd20 hw)) Via.refl F241 ?_
      refine WP.iloadN (pc' := 213) d_prog_24_method_2_212 rfl rfl ?_
      refine WP.iconst (pc' := 214) d_prog_24_method_2_213 rfl (z := 1) rfl ?_
      refine WP.isub (pc' := 215) d_prog_24_method_2_214 rfl ?_
      refine WP.aloadN (pc' := 216) d_prog_24_method_2_215 rfl rfl rfl ?_
      refine WP.getF (pc' := 219) d_prog_24_method_2_216 rfl (host := "") (Or.inl (wd33 hw)) Via.refl F239 ?_
      refine WP.iastoreI (x' := (us + pe)) (N - 1) (pc' := 220) d_prog_24_method_2_219 rfl V233 (pred hp (by omega)) lt1 ge147 rfl ?_
      intro h246 K247 A248
      have E249 := E229.keep K247
      have V250 := V230.keep K247 (ninS ne150 nin0)
      have V251 := V231.keep K247 (ninS ne151 nin0)
      have V252 := V232.keep K247 (ninS ne152 nin0)
      have V253 := V234.keep K247 (ninS ne149 nin0)
      have V254 := V235.keep K247 (ninS ne153 nin0)
      have F255 := F238.keep K247 (ninS ne148 nin0)
      have F256 := F239.keep K247 (ninS ne148 nin0)
      have F257 := F240.keep K247 (ninS ne148 nin0)
      have F258 := F241.keep K247 (ninS ne148 nin0)
      have F259 := F242.keep K247 (ninS ne148 nin0)
      have F260 := F243.keep K247 (ninS ne148 nin0)
      have F261 := F244.keep K247 (ninS ne148 nin0)
      have F262 := F245.keep K247 (ninS ne148 nin0)
      have O263 := O236.keep K247 (allS ge147 all0)
      have Z264 : n0 ≤ h246.size := Nat.le_trans Z237 K247.1
      refine WP.aload (pc' := 222) d_prog_24_method_2_220 rfl rfl rfl ?_
      refine WP.getS (pc' := 225) d_prog_24_method_2_222 rfl (host := "") (Or.inl (wd27 hw)) Via.refl (S_INC.ext O263.2) ?_
      have hc225 : ¬ ((.ref k) : Value) = (.ref ki) := hc5
      refine WP.acmp_ne (pc1 := 242) (pc2 := 228) d_prog_24_method_2_225 rfl rfl (by decide) (by decide) rfl (fun _ => ?_) (fun k => absurd k hc225)
      refine WP.aloadN (pc' := 243) d_prog_24_method_2_242 rfl rfl rfl ?_
      refine WP.dup (pc' := 244) d_prog_24_method_2_243 rfl rfl ?_
      refine WP.getF (pc' := 247) d_prog_24_method_2_244 rfl (host := "") (Or.inl (wd29 hw)) Via.refl F262 ?_
      refine WP.lload (pc' := 249) d_prog_24_method_2_247 rfl rfl ?_
      refine WP.ladd (pc' := 250) d_prog_24_method_2_249 rfl ?_
      refine WP.putF (pc' := 253) d_prog_24_method_2_250 rfl (host := "") (Or.inl (wd29 hw)) Via.refl F262 E249 (Or.inl (wd30 hw)) (wd7 hw) (ty := .long) (by decide) rfl rfl g_a ?_
      intro h265 W266
      have Kw267 := Keep.of_wr W266
      have E268 := E249.keep Kw267
      have V269 := V250.keep Kw267 (ninS (Ne.symm n_a_sb) nin0)
      have V270 := V251.keep Kw267 (ninS (Ne.symm n_a_eb) nin0)
      have V271 := V252.keep Kw267 (ninS n_ln_a nin0)
      have V272 := V253.keep Kw267 (ninS (Ne.symm n_a_bb) nin0)
      have V273 := V254.keep Kw267 (ninS (Ne.symm ne108) nin0)
      have V274 := A248.keep Kw267 (ninS (Ne.symm ne148) nin0)
      have O275 := O263.keep Kw267 (allS g_a all0)
      have Z276 : n0 ≤ h265.size := Nat.le_trans Z264 Kw267.1
      have F277 := F255.other W266 (Or.inr (slot_ne (Or.inl (wd16 hw)) (Or.inl (wd30 hw)) (by decide) (t := (.array .byte)) (t' := .long) (by decide) (by decide)))
      have F278 := F256.other W266 (Or.inr (slot_ne (Or.inl (wd34 hw)) (Or.inl (wd30 hw)) (by decide) (t := .int) (t' := .long) (by decide) (by decide)))
      have F279 := F257.other W266 (Or.inr (slot_ne (Or.inl (wd19 hw)) (Or.inl (wd30 hw)) (by decide) (t := (.array .int)) (t' := .long) (by decide) (by decide)))
      have F280 := F258.other W266 (Or.inr (slot_ne (Or.inl (wd21 hw)) (Or.inl (wd30 hw)) (by decide) (t := (.array .int)) (t' := .long) (by decide) (by decide)))
      have F281 := F259.other W266 (Or.inr (slot_ne (Or.inl (wd76 hw)) (Or.inl (wd30 hw)) (by decide) (t := .int) (t' := .long) (by decide) (by decide)))
      have F282 := F260.other W266 (Or.inr (slot_ne (Or.inl (wd64 hw)) (Or.inl (wd30 hw)) (by decide) (t := .int) (t' := .long) (by decide) (by decide)))
      have F283 := F261.other W266 (Or.inr (slot_ne (Or.inl (wd79 hw)) (Or.inl (wd30 hw)) (by decide) (t := .long) (t' := .long) (by decide) (by decide)))
      have F284 := F262.same W266
      refine WP.aloadN (pc' := 254) d_prog_24_method_2_253 rfl rfl rfl ?_
      refine WP.dup (pc' := 255) d_prog_24_method_2_254 rfl rfl ?_
      refine WP.getF (pc' := 258) d_prog_24_method_2_255 rfl (host := "") (Or.inl (wd63 hw)) Via.refl F282 ?_
      refine WP.iconst (pc' := 259) d_prog_24_method_2_258 rfl (z := 1) rfl ?_
      refine WP.iadd (pc' := 260) d_prog_24_method_2_259 rfl ?_
      refine WP.putF (pc' := 263) d_prog_24_method_2_260 rfl (host := "") (Or.inl (wd63 hw)) Via.refl F282 E268 (Or.inl (wd64 hw)) (wd7 hw) (ty := .int) (by decide) rfl rfl g_a ?_
      intro h285 W286
      have Kw287 := Keep.of_wr W286
      have E288 := E268.keep Kw287
      have V289 := V269.keep Kw287 (ninS (Ne.symm n_a_sb) nin0)
      have V290 := V270.keep Kw287 (ninS (Ne.symm n_a_eb) nin0)
      have V291 := V271.keep Kw287 (ninS n_ln_a nin0)
      have V292 := V272.keep Kw287 (ninS (Ne.symm n_a_bb) nin0)
      have V293 := V273.keep Kw287 (ninS (Ne.symm ne108) nin0)
      have V294 := V274.keep Kw287 (ninS (Ne.symm ne148) nin0)
      have O295 := O275.keep Kw287 (allS g_a all0)
      have Z296 : n0 ≤ h285.size := Nat.le_trans Z276 Kw287.1
      have F297 := F277.other W286 (Or.inr (slot_ne (Or.inl (wd16 hw)) (Or.inl (wd64 hw)) (by decide) (t := (.array .byte)) (t' := .int) (by decide) (by decide)))
      have F298 := F278.other W286 (Or.inr (slot_ne (Or.inl (wd34 hw)) (Or.inl (wd64 hw)) (by decide) (t := .int) (t' := .int) (by decide) (by decide)))
      have F299 := F279.other W286 (Or.inr (slot_ne (Or.inl (wd19 hw)) (Or.inl (wd64 hw)) (by decide) (t := (.array .int)) (t' := .int) (by decide) (by decide)))
      have F300 := F280.other W286 (Or.inr (slot_ne (Or.inl (wd21 hw)) (Or.inl (wd64 hw)) (by decide) (t := (.array .int)) (t' := .int) (by decide) (by decide)))
      have F301 := F281.other W286 (Or.inr (slot_ne (Or.inl (wd76 hw)) (Or.inl (wd64 hw)) (by decide) (t := .int) (t' := .int) (by decide) (by decide)))
      have F302 := F282.same W286
      have F303 := F283.other W286 (Or.inr (slot_ne (Or.inl (wd79 hw)) (Or.inl (wd64 hw)) (by decide) (t := .long) (t' := .int) (by decide) (by decide)))
      have F304 := F284.other W286 (Or.inr (slot_ne (Or.inl (wd30 hw)) (Or.inl (wd64 hw)) (by decide) (t := .long) (t' := .int) (by decide) (by decide)))
      refine WP.iconst (pc' := 264) d_prog_24_method_2_263 rfl (z := 1) rfl ?_
      refine WP.nret (t := .boolean) d_prog_24_method_2_264 rfl (by simp) rfl (by decide) (by decide) ⟨rfl, _, _, _, _, _, _, ⟨O295, ⟨E288, F297, F298, F299, F300, F301, F302, F303, F304⟩, ⟨⟨_, V292⟩, ⟨_, V293⟩, ⟨_, V294, fun i hi => if q : i = N - 1 then (by unfold updI; rw [if_pos q, if_pos q]) else if q2 : i < ne then (by unfold updI; rw [if_neg q, if_neg q]; exact (if_pos q2).trans (hE i q2)) else (by unfold updI; rw [if_neg q, if_neg q]; exact (if_neg q2).trans (hZ0 i (by omega)).symm)⟩, ⟨_, V291⟩⟩, ⟨g_a, g_bb, ge107, ge147⟩, ⟨ne109, ne149, ne153, n_a_bb, ne108, ne148, n_ln_a, n_ln_bb, ne112, ne152⟩, fun i hi => by unfold updI; rw [if_neg (by omega)]; exact hZ0 i (by omega)⟩, (sum_bd hB hu h3).2, by omega, by omega, by omega⟩
  · intro hc5
    refine WP.aloadN (pc' := 9) d_prog_24_method_2_8 rfl rfl rfl ?_
    refine WP.getF (pc' := 12) d_prog_24_method_2_9 rfl (host := "") (Or.inl (wd78 hw)) Via.refl F_income ?_
    refine WP.goto (pc' := 19) d_prog_24_method_2_12 (by decide) (by decide) ?_
    refine WP.lstore (pc' := 21) d_prog_24_method_2_19 rfl (Ls' := #[.val (.ref a), .val (.int p), .val (.ref ln), .val (.int (0 : Int32)), .val (.int pe), .val (.ref k), .val (.long u), .second, .val (.long inc), .second, .unset, .unset, .unset]) rfl ?_
    refine WP.iload (pc' := 23) d_prog_24_method_2_21 rfl rfl ?_
    refine WP.iloadN (pc' := 24) d_prog_24_method_2_23 rfl rfl ?_
    refine WP.isub (pc' := 25) d_prog_24_method_2_24 rfl ?_
    rw [sub0 pe]
    refine WP.istore (pc' := 27) d_prog_24_method_2_25 rfl (Ls' := #[.val (.ref a), .val (.int p), .val (.ref ln), .val (.int (0 : Int32)), .val (.int pe), .val (.ref k), .val (.long u), .second, .val (.long inc), .second, .val (.int pe), .unset, .unset]) rfl ?_
    refine WP.lload (pc' := 29) d_prog_24_method_2_27 rfl rfl ?_
    refine WP.ldc2J (pc' := 32) d_prog_24_method_2_29 rfl (wd31 hw) ?_
    refine WP.lload (pc' := 34) d_prog_24_method_2_32 rfl rfl ?_
    refine WP.lsub (pc' := 35) d_prog_24_method_2_34 rfl ?_
    have hc35 : ¬ ((9223372036854775807 : Int64) - inc) < u := sum_ok hB.1 hB.2.1 h3
    refine WP.lcmp_gt (pc' := 36) (pc1 := 51) (pc2 := 39) d_prog_24_method_2_35 rfl d_prog_24_method_2_36 (by decide) (by decide) rfl (fun k => absurd k hc35) (fun _ => ?_)
    refine WP.iload (pc' := 41) d_prog_24_method_2_39 rfl rfl ?_
    refine WP.ldcI (pc' := 43) d_prog_24_method_2_41 rfl (wd32 hw) ?_
    refine WP.aloadN (pc' := 44) d_prog_24_method_2_43 rfl rfl rfl ?_
    refine WP.getF (pc' := 47) d_prog_24_method_2_44 rfl (host := "") (Or.inl (wd33 hw)) Via.refl F_used ?_
    refine WP.isub (pc' := 48) d_prog_24_method_2_47 rfl ?_
    have hc48 : ¬ ((2147483631 : Int32) - us) < pe := room_ok hU hl (by omega) (by omega)
    refine WP.icmp_le (pc1 := 53) (pc2 := 51) d_prog_24_method_2_48 (by decide) (by decide) rfl (fun _ => ?_) (fun k => absurd k hc48)
    refine WP.aloadN (pc' := 54) d_prog_24_method_2_53 rfl rfl rfl ?_
    refine WP.getF (pc' := 57) d_prog_24_method_2_54 rfl (host := "") (Or.inl (wd33 hw)) Via.refl F_used ?_
    refine WP.iload (pc' := 59) d_prog_24_method_2_57 rfl rfl ?_
    refine WP.iadd (pc' := 60) d_prog_24_method_2_59 rfl ?_
    refine WP.aloadN (pc' := 61) d_prog_24_method_2_60 rfl rfl rfl ?_
    refine WP.getF (pc' := 64) d_prog_24_method_2_61 rfl (host := "") (Or.inl (wd15 hw)) Via.refl F_bytes ?_
    refine WP.arraylengthI (z := (4096 : Int32)) (pc' := 65) d_prog_24_method_2_64 rfl B0 rfl ?_
    have hc65 : ¬ (4096 : Int32) < (us + pe) := by rw [Int32.lt_iff_toInt_lt, adds hU hl (by omega), show (4096 : Int32).toInt = 4096 from rfl]; omega
    refine WP.icmp_le (pc1 := 117) (pc2 := 68) d_prog_24_method_2_65 (by decide) (by decide) rfl (fun _ => ?_) (fun k => absurd k hc65)
    refine WP.iloadN (pc' := 118) d_prog_24_method_2_117 rfl rfl ?_
    refine WP.aloadN (pc' := 119) d_prog_24_method_2_118 rfl rfl rfl ?_
    refine WP.getF (pc' := 122) d_prog_24_method_2_119 rfl (host := "") (Or.inl (wd20 hw)) Via.refl F_ends ?_
    refine WP.arraylengthI (z := (ne : Nat).toInt32) (pc' := 123) d_prog_24_method_2_122 rfl D0 rfl ?_
    refine WP.icmp_le (pc1 := 170) (pc2 := 126) d_prog_24_method_2_123 (by decide) (by decide) rfl ?_ ?_
    · intro hc123
      have lt1 : N - 1 < ne := by rw [Int32.lt_iff_toInt_lt, hp, natI (by omega)] at hc123; omega
      refine WP.aloadN (pc' := 171) d_prog_24_method_2_170 rfl rfl rfl ?_
      refine WP.iloadN (pc' := 172) d_prog_24_method_2_171 rfl rfl ?_
      refine WP.aloadN (pc' := 173) d_prog_24_method_2_172 rfl rfl rfl ?_
      refine WP.getF (pc' := 176) d_prog_24_method_2_173 rfl (host := "") (Or.inl (wd15 hw)) Via.refl F_bytes ?_
      refine WP.aloadN (pc' := 177) d_prog_24_method_2_176 rfl rfl rfl ?_
      refine WP.getF (pc' := 180) d_prog_24_method_2_177 rfl (host := "") (Or.inl (wd33 hw)) Via.refl F_used ?_
      refine WP.iload (pc' := 182) d_prog_24_method_2_180 rfl rfl ?_
      refine WP.arraycopy (wd := 0) (sp := 0) (dp := U) (nn := len) (pc' := 185) d_prog_24_method_2_182 rfl (wd62 hw) (wd55 hw) (wd53 hw) (wd54 hw) L0 B0 rfl rfl hU hl (by omega) (by omega) g_bb rfl (by decide) (Nat.le_of_eq rfl) (by decide) ?_
      intro h305 K305 A305
      have E306 := E0.keep K305
      have F307 := F_bytes.keep K305 (ninS n_a_bb nin0)
      have F308 := F_used.keep K305 (ninS n_a_bb nin0)
      have F309 := F_starts.keep K305 (ninS n_a_bb nin0)
      have F310 := F_ends.keep K305 (ninS n_a_bb nin0)
      have F311 := F_lowest.keep K305 (ninS n_a_bb nin0)
      have F312 := F_count.keep K305 (ninS n_a_bb nin0)
      have F313 := F_income.keep K305 (ninS n_a_bb nin0)
      have F314 := F_expenses.keep K305 (ninS n_a_bb nin0)
      have V315 := S0.keep K305 (ninS (Ne.symm n_bb_sb) nin0)
      have V316 := D0.keep K305 (ninS (Ne.symm n_bb_eb) nin0)
      have V317 := L0.keep K305 (ninS n_ln_bb nin0)
      have O318 := O0.keep K305 (allS g_bb all0)
      have Z319 : n0 ≤ h305.size := Nat.le_trans Z0 K305.1
      refine WP.aloadN (pc' := 186) d_prog_24_method_2_185 rfl rfl rfl ?_
      refine WP.getF (pc' := 189) d_prog_24_method_2_186 rfl (host := "") (Or.inl (wd18 hw)) Via.refl F309 ?_
      refine WP.iloadN (pc' := 190) d_prog_24_method_2_189 rfl rfl ?_
      refine WP.iconst (pc' := 191) d_prog_24_method_2_190 rfl (z := 1) rfl ?_
      refine WP.isub (pc' := 192) d_prog_24_method_2_191 rfl ?_
      refine WP.aloadN (pc' := 193) d_prog_24_method_2_192 rfl rfl rfl ?_
      refine WP.getF (pc' := 196) d_prog_24_method_2_193 rfl (host := "") (Or.inl (wd33 hw)) Via.refl F308 ?_
      refine WP.iastoreI (x' := us) (N - 1) (pc' := 197) d_prog_24_method_2_196 rfl V315 (pred hp (by omega)) lt1 g_sb rfl ?_
      intro h320 K321 A322
      have E323 := E306.keep K321
      have F324 := F307.keep K321 (ninS n_a_sb nin0)
      have F325 := F308.keep K321 (ninS n_a_sb nin0)
      have F326 := F309.keep K321 (ninS n_a_sb nin0)
      have F327 := F310.keep K321 (ninS n_a_sb nin0)
      have F328 := F311.keep K321 (ninS n_a_sb nin0)
      have F329 := F312.keep K321 (ninS n_a_sb nin0)
      have F330 := F313.keep K321 (ninS n_a_sb nin0)
      have F331 := F314.keep K321 (ninS n_a_sb nin0)
      have V332 := V316.keep K321 (ninS (Ne.symm n_sb_eb) nin0)
      have V333 := V317.keep K321 (ninS n_ln_sb nin0)
      have V334 := A305.keep K321 (ninS n_bb_sb nin0)
      have O335 := O318.keep K321 (allS g_sb all0)
      have Z336 : n0 ≤ h320.size := Nat.le_trans Z319 K321.1
      refine WP.aloadN (pc' := 198) d_prog_24_method_2_197 rfl rfl rfl ?_
      refine WP.dup (pc' := 199) d_prog_24_method_2_198 rfl rfl ?_
      refine WP.getF (pc' := 202) d_prog_24_method_2_199 rfl (host := "") (Or.inl (wd33 hw)) Via.refl F325 ?_
      refine WP.iload (pc' := 204) d_prog_24_method_2_202 rfl rfl ?_
      refine WP.iadd (pc' := 205) d_prog_24_method_2_204 rfl ?_
      refine WP.putF (pc' := 208) d_prog_24_method_2_205 rfl (host := "") (Or.inl (wd33 hw)) Via.refl F325 E323 (Or.inl (wd34 hw)) (wd7 hw) (ty := .int) (by decide) rfl rfl g_a ?_
      intro h337 W338
      have Kw339 := Keep.of_wr W338
      have E340 := E323.keep Kw339
      have V341 := V332.keep Kw339 (ninS (Ne.symm n_a_eb) nin0)
      have V342 := V333.keep Kw339 (ninS n_ln_a nin0)
      have V343 := V334.keep Kw339 (ninS (Ne.symm n_a_bb) nin0)
      have V344 := A322.keep Kw339 (ninS (Ne.symm n_a_sb) nin0)
      have O345 := O335.keep Kw339 (allS g_a all0)
      have Z346 : n0 ≤ h337.size := Nat.le_trans Z336 Kw339.1
      have F347 := F324.other W338 (Or.inr (slot_ne (Or.inl (wd16 hw)) (Or.inl (wd34 hw)) (by decide) (t := (.array .byte)) (t' := .int) (by decide) (by decide)))
      have F348 := F325.same W338
      have F349 := F326.other W338 (Or.inr (slot_ne (Or.inl (wd19 hw)) (Or.inl (wd34 hw)) (by decide) (t := (.array .int)) (t' := .int) (by decide) (by decide)))
      have F350 := F327.other W338 (Or.inr (slot_ne (Or.inl (wd21 hw)) (Or.inl (wd34 hw)) (by decide) (t := (.array .int)) (t' := .int) (by decide) (by decide)))
      have F351 := F328.other W338 (Or.inr (slot_ne (Or.inl (wd76 hw)) (Or.inl (wd34 hw)) (by decide) (t := .int) (t' := .int) (by decide) (by decide)))
      have F352 := F329.other W338 (Or.inr (slot_ne (Or.inl (wd64 hw)) (Or.inl (wd34 hw)) (by decide) (t := .int) (t' := .int) (by decide) (by decide)))
      have F353 := F330.other W338 (Or.inr (slot_ne (Or.inl (wd79 hw)) (Or.inl (wd34 hw)) (by decide) (t := .long) (t' := .int) (by decide) (by decide)))
      have F354 := F331.other W338 (Or.inr (slot_ne (Or.inl (wd30 hw)) (Or.inl (wd34 hw)) (by decide) (t := .long) (t' := .int) (by decide) (by decide)))
      refine WP.aloadN (pc' := 209) d_prog_24_method_2_208 rfl rfl rfl ?_
      refine WP.getF (pc' := 212) d_prog_24_method_2_209 rfl (host := "") (Or.inl (wd20 hw)) Via.refl F350 ?_
      refine WP.iloadN (pc' := 213) d_prog_24_method_2_212 rfl rfl ?_
      refine WP.iconst (pc' := 214) d_prog_24_method_2_213 rfl (z := 1) rfl ?_
      refine WP.isub (pc' := 215) d_prog_24_method_2_214 rfl ?_
      refine WP.aloadN (pc' := 216) d_prog_24_method_2_215 rfl rfl rfl ?_
      refine WP.getF (pc' := 219) d_prog_24_method_2_216 rfl (host := "") (Or.inl (wd33 hw)) Via.refl F348 ?_
      refine WP.iastoreI (x' := (us + pe)) (N - 1) (pc' := 220) d_prog_24_method_2_219 rfl V341 (pred hp (by omega)) lt1 g_eb rfl ?_
      intro h355 K356 A357
      have E358 := E340.keep K356
      have V359 := V342.keep K356 (ninS n_ln_eb nin0)
      have V360 := V343.keep K356 (ninS n_bb_eb nin0)
      have V361 := V344.keep K356 (ninS n_sb_eb nin0)
      have F362 := F347.keep K356 (ninS n_a_eb nin0)
      have F363 := F348.keep K356 (ninS n_a_eb nin0)
      have F364 := F349.keep K356 (ninS n_a_eb nin0)
      have F365 := F350.keep K356 (ninS n_a_eb nin0)
      have F366 := F351.keep K356 (ninS n_a_eb nin0)
      have F367 := F352.keep K356 (ninS n_a_eb nin0)
      have F368 := F353.keep K356 (ninS n_a_eb nin0)
      have F369 := F354.keep K356 (ninS n_a_eb nin0)
      have O370 := O345.keep K356 (allS g_eb all0)
      have Z371 : n0 ≤ h355.size := Nat.le_trans Z346 K356.1
      refine WP.aload (pc' := 222) d_prog_24_method_2_220 rfl rfl rfl ?_
      refine WP.getS (pc' := 225) d_prog_24_method_2_222 rfl (host := "") (Or.inl (wd27 hw)) Via.refl (S_INC.ext O370.2) ?_
      have hc225 : ((.ref k) : Value) = (.ref ki) := hc5
      refine WP.acmp_ne (pc1 := 242) (pc2 := 228) d_prog_24_method_2_225 rfl rfl (by decide) (by decide) rfl (fun k => absurd hc225 k) (fun _ => ?_)
      refine WP.aloadN (pc' := 229) d_prog_24_method_2_228 rfl rfl rfl ?_
      refine WP.dup (pc' := 230) d_prog_24_method_2_229 rfl rfl ?_
      refine WP.getF (pc' := 233) d_prog_24_method_2_230 rfl (host := "") (Or.inl (wd78 hw)) Via.refl F368 ?_
      refine WP.lload (pc' := 235) d_prog_24_method_2_233 rfl rfl ?_
      refine WP.ladd (pc' := 236) d_prog_24_method_2_235 rfl ?_
      refine WP.putF (pc' := 239) d_prog_24_method_2_236 rfl (host := "") (Or.inl (wd78 hw)) Via.refl F368 E358 (Or.inl (wd79 hw)) (wd7 hw) (ty := .long) (by decide) rfl rfl g_a ?_
      intro h372 W373
      have Kw374 := Keep.of_wr W373
      have E375 := E358.keep Kw374
      have V376 := V359.keep Kw374 (ninS n_ln_a nin0)
      have V377 := V360.keep Kw374 (ninS (Ne.symm n_a_bb) nin0)
      have V378 := V361.keep Kw374 (ninS (Ne.symm n_a_sb) nin0)
      have V379 := A357.keep Kw374 (ninS (Ne.symm n_a_eb) nin0)
      have O380 := O370.keep Kw374 (allS g_a all0)
      have Z381 : n0 ≤ h372.size := Nat.le_trans Z371 Kw374.1
      have F382 := F362.other W373 (Or.inr (slot_ne (Or.inl (wd16 hw)) (Or.inl (wd79 hw)) (by decide) (t := (.array .byte)) (t' := .long) (by decide) (by decide)))
      have F383 := F363.other W373 (Or.inr (slot_ne (Or.inl (wd34 hw)) (Or.inl (wd79 hw)) (by decide) (t := .int) (t' := .long) (by decide) (by decide)))
      have F384 := F364.other W373 (Or.inr (slot_ne (Or.inl (wd19 hw)) (Or.inl (wd79 hw)) (by decide) (t := (.array .int)) (t' := .long) (by decide) (by decide)))
      have F385 := F365.other W373 (Or.inr (slot_ne (Or.inl (wd21 hw)) (Or.inl (wd79 hw)) (by decide) (t := (.array .int)) (t' := .long) (by decide) (by decide)))
      have F386 := F366.other W373 (Or.inr (slot_ne (Or.inl (wd76 hw)) (Or.inl (wd79 hw)) (by decide) (t := .int) (t' := .long) (by decide) (by decide)))
      have F387 := F367.other W373 (Or.inr (slot_ne (Or.inl (wd64 hw)) (Or.inl (wd79 hw)) (by decide) (t := .int) (t' := .long) (by decide) (by decide)))
      have F388 := F368.same W373
      have F389 := F369.other W373 (Or.inr (slot_ne (Or.inl (wd30 hw)) (Or.inl (wd79 hw)) (by decide) (t := .long) (t' := .long) (by decide) (by decide)))
      refine WP.goto (pc' := 253) d_prog_24_method_2_239 (by decide) (by decide) ?_
      refine WP.aloadN (pc' := 254) d_prog_24_method_2_253 rfl rfl rfl ?_
      refine WP.dup (pc' := 255) d_prog_24_method_2_254 rfl rfl ?_
      refine WP.getF (pc' := 258) d_prog_24_method_2_255 rfl (host := "") (Or.inl (wd63 hw)) Via.refl F387 ?_
      refine WP.iconst (pc' := 259) d_prog_24_method_2_258 rfl (z := 1) rfl ?_
      refine WP.iadd (pc' := 260) d_prog_24_method_2_259 rfl ?_
      refine WP.putF (pc' := 263) d_prog_24_method_2_260 rfl (host := "") (Or.inl (wd63 hw)) Via.refl F387 E375 (Or.inl (wd64 hw)) (wd7 hw) (ty := .int) (by decide) rfl rfl g_a ?_
      intro h390 W391
      have Kw392 := Keep.of_wr W391
      have E393 := E375.keep Kw392
      have V394 := V376.keep Kw392 (ninS n_ln_a nin0)
      have V395 := V377.keep Kw392 (ninS (Ne.symm n_a_bb) nin0)
      have V396 := V378.keep Kw392 (ninS (Ne.symm n_a_sb) nin0)
      have V397 := V379.keep Kw392 (ninS (Ne.symm n_a_eb) nin0)
      have O398 := O380.keep Kw392 (allS g_a all0)
      have Z399 : n0 ≤ h390.size := Nat.le_trans Z381 Kw392.1
      have F400 := F382.other W391 (Or.inr (slot_ne (Or.inl (wd16 hw)) (Or.inl (wd64 hw)) (by decide) (t := (.array .byte)) (t' := .int) (by decide) (by decide)))
      have F401 := F383.other W391 (Or.inr (slot_ne (Or.inl (wd34 hw)) (Or.inl (wd64 hw)) (by decide) (t := .int) (t' := .int) (by decide) (by decide)))
      have F402 := F384.other W391 (Or.inr (slot_ne (Or.inl (wd19 hw)) (Or.inl (wd64 hw)) (by decide) (t := (.array .int)) (t' := .int) (by decide) (by decide)))
      have F403 := F385.other W391 (Or.inr (slot_ne (Or.inl (wd21 hw)) (Or.inl (wd64 hw)) (by decide) (t := (.array .int)) (t' := .int) (by decide) (by decide)))
      have F404 := F386.other W391 (Or.inr (slot_ne (Or.inl (wd76 hw)) (Or.inl (wd64 hw)) (by decide) (t := .int) (t' := .int) (by decide) (by decide)))
      have F405 := F387.same W391
      have F406 := F388.other W391 (Or.inr (slot_ne (Or.inl (wd79 hw)) (Or.inl (wd64 hw)) (by decide) (t := .long) (t' := .int) (by decide) (by decide)))
      have F407 := F389.other W391 (Or.inr (slot_ne (Or.inl (wd30 hw)) (Or.inl (wd64 hw)) (by decide) (t := .long) (t' := .int) (by decide) (by decide)))
      refine WP.iconst (pc' := 264) d_prog_24_method_2_263 rfl (z := 1) rfl ?_
      refine WP.nret (t := .boolean) d_prog_24_method_2_264 rfl (by simp) rfl (by decide) (by decide) ⟨rfl, _, _, _, _, _, _, ⟨O398, ⟨E393, F400, F401, F402, F403, F404, F405, F406, F407⟩, ⟨⟨_, V395⟩, ⟨_, V396⟩, ⟨_, V397, fun i hi => if q : i = N - 1 then (by unfold updI; rw [if_pos q, if_pos q]) else (by unfold updI; rw [if_neg q, if_neg q]; exact hE i hi)⟩, ⟨_, V394⟩⟩, ⟨g_a, g_bb, g_sb, g_eb⟩, ⟨n_bb_sb, n_bb_eb, n_sb_eb, n_a_bb, n_a_sb, n_a_eb, n_ln_a, n_ln_bb, n_ln_sb, n_ln_eb⟩, fun i hi => by unfold updI; rw [if_neg (by omega)]; exact hZ0 i (by omega)⟩, (sum_bd hB hu h3).1, by omega, by omega, by omega⟩
    · intro hc123
      refine WP.iloadN (pc' := 127) d_prog_24_method_2_126 rfl rfl ?_
      refine WP.iconst (pc' := 128) d_prog_24_method_2_127 rfl (z := 2) rfl ?_
      refine WP.aloadN (pc' := 129) d_prog_24_method_2_128 rfl rfl rfl ?_
      refine WP.getF (pc' := 132) d_prog_24_method_2_129 rfl (host := "") (Or.inl (wd20 hw)) Via.refl F_ends ?_
      refine WP.arraylengthI (z := (ne : Nat).toInt32) (pc' := 133) d_prog_24_method_2_132 rfl D0 rfl ?_
      refine WP.imul (pc' := 134) d_prog_24_method_2_133 rfl ?_
      refine WP.bipush (pc' := 136) d_prog_24_method_2_134 rfl (z := 16) rfl ?_
      refine WP.callS (argsL := [(.int ((2 : Int32) * (ne : Nat).toInt32)), (.int (16 : Int32))]) (rest := [(.int p)]) (wd := 1) (cl' := 0) (sl' := 0) (pc' := 139) d_prog_24_method_2_136 rfl (wd56 hw) (wd57 hw) (wd39 hw) (wd58 hw) (by decide) (m_maxI hw ((2 : Int32) * (ne : Nat).toInt32) (16 : Int32) h0 n0) pd_0 rfl rfl rfl (Nat.le_of_eq rfl) (by decide) (by decide) rfl rfl (by decide) (by decide) ?_
      rintro v hh408 ⟨rfl, he408⟩
      rw [he408]
      refine WP.castS (st' := [(.int (maxI ((2 : Int32) * (ne : Nat).toInt32) (16 : Int32))), (.int p)]) rfl ?_
      refine WP.callS (argsL := [(.int p), (.int (maxI ((2 : Int32) * (ne : Nat).toInt32) (16 : Int32)))]) (rest := []) (wd := 0) (cl' := 0) (sl' := 0) (pc' := 142) d_prog_24_method_2_139 rfl (wd56 hw) (wd57 hw) (wd39 hw) (wd58 hw) (by decide) (m_maxI hw p (maxI ((2 : Int32) * (ne : Nat).toInt32) (16 : Int32)) h0 n0) pd_0 rfl rfl rfl (Nat.le_of_eq rfl) (by decide) (by decide) rfl rfl (by decide) (by decide) ?_
      rintro v hh409 ⟨rfl, he409⟩
      rw [he409]
      refine WP.castS (st' := [(.int (maxI p (maxI ((2 : Int32) * (ne : Nat).toInt32) (16 : Int32))))]) rfl ?_
      generalize ht410 : (maxI p (maxI ((2 : Int32) * (ne : Nat).toInt32) (16 : Int32))) = t410
      refine WP.istore (pc' := 144) d_prog_24_method_2_142 rfl (Ls' := #[.val (.ref a), .val (.int p), .val (.ref ln), .val (.int (0 : Int32)), .val (.int pe), .val (.ref k), .val (.long u), .second, .val (.long inc), .second, .val (.int pe), .val (.int t410), .unset]) rfl ?_
      obtain ⟨M, hM⟩ : ∃ M : Nat, M = max N (max (2 * ne) 16) := ⟨_, rfl⟩
      have hMv : t410.toInt = (M : Int) := by rw [← ht410, maxI_v, maxI_v, hp, twice (by omega), show (16 : Int32).toInt = 16 from rfl]; omega
      refine WP.aloadN (pc' := 145) d_prog_24_method_2_144 rfl rfl rfl ?_
      refine WP.aloadN (pc' := 146) d_prog_24_method_2_145 rfl rfl rfl ?_
      refine WP.getF (pc' := 149) d_prog_24_method_2_146 rfl (host := "") (Or.inl (wd18 hw)) Via.refl F_starts ?_
      refine WP.iload (pc' := 151) d_prog_24_method_2_149 rfl rfl ?_
      refine WP.callS (argsL := [(.ref sb), (.int t410)]) (rest := [(.ref a)]) (wd := 1) (cl' := 1) (sl' := 128) (pc' := 154) d_prog_24_method_2_151 rfl (wd59 hw) (wd60 hw) (wd47 hw) (wd61 hw) (by decide) (m_cpI128 hw sb t410 h0 n0 Z0 gS (ne) (M) S0 hMv (by rw [hM]; rw [Int32.lt_iff_toInt_lt, hp, natI (by omega)] at hc123; omega) (by omega)) pd_3 rfl rfl rfl (Nat.le_of_eq rfl) (by decide) (by decide) rfl rfl (by decide) (by decide) ?_
      rintro v h411 ⟨c411, rfl, K411, ge411, sz411, A411⟩
      have ne412 : a ≠ c411 := Nat.ne_of_lt (Nat.lt_of_lt_of_le E0.lt sz411)
      have ne413 : bb ≠ c411 := Nat.ne_of_lt (Nat.lt_of_lt_of_le B0.lt sz411)
      have ne414 : sb ≠ c411 := Nat.ne_of_lt (Nat.lt_of_lt_of_le S0.lt sz411)
      have ne415 : eb ≠ c411 := Nat.ne_of_lt (Nat.lt_of_lt_of_le D0.lt sz411)
      have ne416 : ln ≠ c411 := Nat.ne_of_lt (Nat.lt_of_lt_of_le L0.lt sz411)
      have E417 := E0.keep K411
      have F418 := F_bytes.keep K411 nin0
      have F419 := F_used.keep K411 nin0
      have F420 := F_starts.keep K411 nin0
      have F421 := F_ends.keep K411 nin0
      have F422 := F_lowest.keep K411 nin0
      have F423 := F_count.keep K411 nin0
      have F424 := F_income.keep K411 nin0
      have F425 := F_expenses.keep K411 nin0
      have V426 := B0.keep K411 nin0
      have V427 := S0.keep K411 nin0
      have V428 := D0.keep K411 nin0
      have V429 := L0.keep K411 nin0
      have O430 := O0.keep K411 all0
      have Z431 : n0 ≤ h411.size := Nat.le_trans Z0 K411.1
      refine WP.castS (st' := [(.ref c411), (.ref a)]) rfl ?_
      refine WP.putF (pc' := 157) d_prog_24_method_2_154 rfl (host := "") (Or.inl (wd18 hw)) Via.refl F420 E417 (Or.inl (wd19 hw)) (wd7 hw) (ty := (.array .int)) (by decide) rfl rfl g_a ?_
      intro h432 W433
      have Kw434 := Keep.of_wr W433
      have E435 := E417.keep Kw434
      have V436 := V426.keep Kw434 (ninS (Ne.symm n_a_bb) nin0)
      have V437 := V427.keep Kw434 (ninS (Ne.symm n_a_sb) nin0)
      have V438 := V428.keep Kw434 (ninS (Ne.symm n_a_eb) nin0)
      have V439 := V429.keep Kw434 (ninS n_ln_a nin0)
      have V440 := A411.keep Kw434 (ninS (Ne.symm ne412) nin0)
      have O441 := O430.keep Kw434 (allS g_a all0)
      have Z442 : n0 ≤ h432.size := Nat.le_trans Z431 Kw434.1
      have F443 := F418.other W433 (Or.inr (slot_ne (Or.inl (wd16 hw)) (Or.inl (wd19 hw)) (by decide) (t := (.array .byte)) (t' := (.array .int)) (by decide) (by decide)))
      have F444 := F419.other W433 (Or.inr (slot_ne (Or.inl (wd34 hw)) (Or.inl (wd19 hw)) (by decide) (t := .int) (t' := (.array .int)) (by decide) (by decide)))
      have F445 := F420.same W433
      have F446 := F421.other W433 (Or.inr (slot_ne (Or.inl (wd21 hw)) (Or.inl (wd19 hw)) (by decide) (t := (.array .int)) (t' := (.array .int)) (by decide) (by decide)))
      have F447 := F422.other W433 (Or.inr (slot_ne (Or.inl (wd76 hw)) (Or.inl (wd19 hw)) (by decide) (t := .int) (t' := (.array .int)) (by decide) (by decide)))
      have F448 := F423.other W433 (Or.inr (slot_ne (Or.inl (wd64 hw)) (Or.inl (wd19 hw)) (by decide) (t := .int) (t' := (.array .int)) (by decide) (by decide)))
      have F449 := F424.other W433 (Or.inr (slot_ne (Or.inl (wd79 hw)) (Or.inl (wd19 hw)) (by decide) (t := .long) (t' := (.array .int)) (by decide) (by decide)))
      have F450 := F425.other W433 (Or.inr (slot_ne (Or.inl (wd30 hw)) (Or.inl (wd19 hw)) (by decide) (t := .long) (t' := (.array .int)) (by decide) (by decide)))
      refine WP.aloadN (pc' := 158) d_prog_24_method_2_157 rfl rfl rfl ?_
      refine WP.aloadN (pc' := 159) d_prog_24_method_2_158 rfl rfl rfl ?_
      refine WP.getF (pc' := 162) d_prog_24_method_2_159 rfl (host := "") (Or.inl (wd20 hw)) Via.refl F446 ?_
      refine WP.iload (pc' := 164) d_prog_24_method_2_162 rfl rfl ?_
      refine WP.callS (argsL := [(.ref eb), (.int t410)]) (rest := [(.ref a)]) (wd := 1) (cl' := 2) (sl' := 256) (pc' := 167) d_prog_24_method_2_164 rfl (wd59 hw) (wd60 hw) (wd47 hw) (wd61 hw) (by decide) (m_cpI128 hw eb t410 h432 n0 Z442 gE (ne) (M) V438 hMv (by rw [hM]; rw [Int32.lt_iff_toInt_lt, hp, natI (by omega)] at hc123; omega) (by omega)) pd_3 rfl rfl rfl (Nat.le_of_eq rfl) (by decide) (by decide) rfl rfl (by decide) (by decide) ?_
      rintro v h451 ⟨c451, rfl, K451, ge451, sz451, A451⟩
      have ne452 : a ≠ c451 := Nat.ne_of_lt (Nat.lt_of_lt_of_le E435.lt sz451)
      have ne453 : bb ≠ c451 := Nat.ne_of_lt (Nat.lt_of_lt_of_le V436.lt sz451)
      have ne454 : sb ≠ c451 := Nat.ne_of_lt (Nat.lt_of_lt_of_le V437.lt sz451)
      have ne455 : eb ≠ c451 := Nat.ne_of_lt (Nat.lt_of_lt_of_le V438.lt sz451)
      have ne456 : ln ≠ c451 := Nat.ne_of_lt (Nat.lt_of_lt_of_le V439.lt sz451)
      have ne457 : c411 ≠ c451 := Nat.ne_of_lt (Nat.lt_of_lt_of_le V440.lt sz451)
      have E458 := E435.keep K451
      have V459 := V436.keep K451 nin0
      have V460 := V437.keep K451 nin0
      have V461 := V438.keep K451 nin0
      have V462 := V439.keep K451 nin0
      have V463 := V440.keep K451 nin0
      have F464 := F443.keep K451 nin0
      have F465 := F444.keep K451 nin0
      have F466 := F445.keep K451 nin0
      have F467 := F446.keep K451 nin0
      have F468 := F447.keep K451 nin0
      have F469 := F448.keep K451 nin0
      have F470 := F449.keep K451 nin0
      have F471 := F450.keep K451 nin0
      have O472 := O441.keep K451 all0
      have Z473 : n0 ≤ h451.size := Nat.le_trans Z442 K451.1
      refine WP.castS (st' := [(.ref c451), (.ref a)]) rfl ?_
      refine WP.putF (pc' := 170) d_prog_24_method_2_167 rfl (host := "") (Or.inl (wd20 hw)) Via.refl F467 E458 (Or.inl (wd21 hw)) (wd7 hw) (ty := (.array .int)) (by decide) rfl rfl g_a ?_
      intro h474 W475
      have Kw476 := Keep.of_wr W475
      have E477 := E458.keep Kw476
      have V478 := V459.keep Kw476 (ninS (Ne.symm n_a_bb) nin0)
      have V479 := V460.keep Kw476 (ninS (Ne.symm n_a_sb) nin0)
      have V480 := V461.keep Kw476 (ninS (Ne.symm n_a_eb) nin0)
      have V481 := V462.keep Kw476 (ninS n_ln_a nin0)
      have V482 := V463.keep Kw476 (ninS (Ne.symm ne412) nin0)
      have V483 := A451.keep Kw476 (ninS (Ne.symm ne452) nin0)
      have O484 := O472.keep Kw476 (allS g_a all0)
      have Z485 : n0 ≤ h474.size := Nat.le_trans Z473 Kw476.1
      have F486 := F464.other W475 (Or.inr (slot_ne (Or.inl (wd16 hw)) (Or.inl (wd21 hw)) (by decide) (t := (.array .byte)) (t' := (.array .int)) (by decide) (by decide)))
      have F487 := F465.other W475 (Or.inr (slot_ne (Or.inl (wd34 hw)) (Or.inl (wd21 hw)) (by decide) (t := .int) (t' := (.array .int)) (by decide) (by decide)))
      have F488 := F466.other W475 (Or.inr (slot_ne (Or.inl (wd19 hw)) (Or.inl (wd21 hw)) (by decide) (t := (.array .int)) (t' := (.array .int)) (by decide) (by decide)))
      have F489 := F467.same W475
      have F490 := F468.other W475 (Or.inr (slot_ne (Or.inl (wd76 hw)) (Or.inl (wd21 hw)) (by decide) (t := .int) (t' := (.array .int)) (by decide) (by decide)))
      have F491 := F469.other W475 (Or.inr (slot_ne (Or.inl (wd64 hw)) (Or.inl (wd21 hw)) (by decide) (t := .int) (t' := (.array .int)) (by decide) (by decide)))
      have F492 := F470.other W475 (Or.inr (slot_ne (Or.inl (wd79 hw)) (Or.inl (wd21 hw)) (by decide) (t := .long) (t' := (.array .int)) (by decide) (by decide)))
      have F493 := F471.other W475 (Or.inr (slot_ne (Or.inl (wd30 hw)) (Or.inl (wd21 hw)) (by decide) (t := .long) (t' := (.array .int)) (by decide) (by decide)))
      have lt1 : N - 1 < M := by omega
      refine WP.aloadN (pc' := 171) d_prog_24_method_2_170 rfl rfl rfl ?_
      refine WP.iloadN (pc' := 172) d_prog_24_method_2_171 rfl rfl ?_
      refine WP.aloadN (pc' := 173) d_prog_24_method_2_172 rfl rfl rfl ?_
      refine WP.getF (pc' := 176) d_prog_24_method_2_173 rfl (host := "") (Or.inl (wd15 hw)) Via.refl F486 ?_
      refine WP.aloadN (pc' := 177) d_prog_24_method_2_176 rfl rfl rfl ?_
      refine WP.getF (pc' := 180) d_prog_24_method_2_177 rfl (host := "") (Or.inl (wd33 hw)) Via.refl F487 ?_
      refine WP.iload (pc' := 182) d_prog_24_method_2_180 rfl rfl ?_
      refine WP.arraycopy (wd := 0) (sp := 0) (dp := U) (nn := len) (pc' := 185) d_prog_24_method_2_182 rfl (wd62 hw) (wd55 hw) (wd53 hw) (wd54 hw) V481 V478 rfl rfl hU hl (by omega) (by omega) g_bb rfl (by decide) (Nat.le_of_eq rfl) (by decide) ?_
      intro h494 K494 A494
      have E495 := E477.keep K494
      have V496 := V479.keep K494 (ninS (Ne.symm n_bb_sb) nin0)
      have V497 := V480.keep K494 (ninS (Ne.symm n_bb_eb) nin0)
      have V498 := V481.keep K494 (ninS n_ln_bb nin0)
      have V499 := V482.keep K494 (ninS (Ne.symm ne413) nin0)
      have V500 := V483.keep K494 (ninS (Ne.symm ne453) nin0)
      have F501 := F486.keep K494 (ninS n_a_bb nin0)
      have F502 := F487.keep K494 (ninS n_a_bb nin0)
      have F503 := F488.keep K494 (ninS n_a_bb nin0)
      have F504 := F489.keep K494 (ninS n_a_bb nin0)
      have F505 := F490.keep K494 (ninS n_a_bb nin0)
      have F506 := F491.keep K494 (ninS n_a_bb nin0)
      have F507 := F492.keep K494 (ninS n_a_bb nin0)
      have F508 := F493.keep K494 (ninS n_a_bb nin0)
      have O509 := O484.keep K494 (allS g_bb all0)
      have Z510 : n0 ≤ h494.size := Nat.le_trans Z485 K494.1
      refine WP.aloadN (pc' := 186) d_prog_24_method_2_185 rfl rfl rfl ?_
      refine WP.getF (pc' := 189) d_prog_24_method_2_186 rfl (host := "") (Or.inl (wd18 hw)) Via.refl F503 ?_
      refine WP.iloadN (pc' := 190) d_prog_24_method_2_189 rfl rfl ?_
      refine WP.iconst (pc' := 191) d_prog_24_method_2_190 rfl (z := 1) rfl ?_
      refine WP.isub (pc' := 192) d_prog_24_method_2_191 rfl ?_
      refine WP.aloadN (pc' := 193) d_prog_24_method_2_192 rfl rfl rfl ?_
      refine WP.getF (pc' := 196) d_prog_24_method_2_193 rfl (host := "") (Or.inl (wd33 hw)) Via.refl F502 ?_
      refine WP.iastoreI (x' := us) (N - 1) (pc' := 197) d_prog_24_method_2_196 rfl V499 (pred hp (by omega)) lt1 ge411 rfl ?_
      intro h511 K512 A513
      have E514 := E495.keep K512
      have V515 := V496.keep K512 (ninS ne414 nin0)
      have V516 := V497.keep K512 (ninS ne415 nin0)
      have V517 := V498.keep K512 (ninS ne416 nin0)
      have V518 := V500.keep K512 (ninS (Ne.symm ne457) nin0)
      have F519 := F501.keep K512 (ninS ne412 nin0)
      have F520 := F502.keep K512 (ninS ne412 nin0)
      have F521 := F503.keep K512 (ninS ne412 nin0)
      have F522 := F504.keep K512 (ninS ne412 nin0)
      have F523 := F505.keep K512 (ninS ne412 nin0)
      have F524 := F506.keep K512 (ninS ne412 nin0)
      have F525 := F507.keep K512 (ninS ne412 nin0)
      have F526 := F508.keep K512 (ninS ne412 nin0)
      have V527 := A494.keep K512 (ninS ne413 nin0)
      have O528 := O509.keep K512 (allS ge411 all0)
      have Z529 : n0 ≤ h511.size := Nat.le_trans Z510 K512.1
      refine WP.aloadN (pc' := 198) d_prog_24_method_2_197 rfl rfl rfl ?_
      refine WP.dup (pc' := 199) d_prog_24_method_2_198 rfl rfl ?_
      refine WP.getF (pc' := 202) d_prog_24_method_2_199 rfl (host := "") (Or.inl (wd33 hw)) Via.refl F520 ?_
      refine WP.iload (pc' := 204) d_prog_24_method_2_202 rfl rfl ?_
      refine WP.iadd (pc' := 205) d_prog_24_method_2_204 rfl ?_
      refine WP.putF (pc' := 208) d_prog_24_method_2_205 rfl (host := "") (Or.inl (wd33 hw)) Via.refl F520 E514 (Or.inl (wd34 hw)) (wd7 hw) (ty := .int) (by decide) rfl rfl g_a ?_
      intro h530 W531
      have Kw532 := Keep.of_wr W531
      have E533 := E514.keep Kw532
      have V534 := V515.keep Kw532 (ninS (Ne.symm n_a_sb) nin0)
      have V535 := V516.keep Kw532 (ninS (Ne.symm n_a_eb) nin0)
      have V536 := V517.keep Kw532 (ninS n_ln_a nin0)
      have V537 := V518.keep Kw532 (ninS (Ne.symm ne452) nin0)
      have V538 := V527.keep Kw532 (ninS (Ne.symm n_a_bb) nin0)
      have V539 := A513.keep Kw532 (ninS (Ne.symm ne412) nin0)
      have O540 := O528.keep Kw532 (allS g_a all0)
      have Z541 : n0 ≤ h530.size := Nat.le_trans Z529 Kw532.1
      have F542 := F519.other W531 (Or.inr (slot_ne (Or.inl (wd16 hw)) (Or.inl (wd34 hw)) (by decide) (t := (.array .byte)) (t' := .int) (by decide) (by decide)))
      have F543 := F520.same W531
      have F544 := F521.other W531 (Or.inr (slot_ne (Or.inl (wd19 hw)) (Or.inl (wd34 hw)) (by decide) (t := (.array .int)) (t' := .int) (by decide) (by decide)))
      have F545 := F522.other W531 (Or.inr (slot_ne (Or.inl (wd21 hw)) (Or.inl (wd34 hw)) (by decide) (t := (.array .int)) (t' := .int) (by decide) (by decide)))
      have F546 := F523.other W531 (Or.inr (slot_ne (Or.inl (wd76 hw)) (Or.inl (wd34 hw)) (by decide) (t := .int) (t' := .int) (by decide) (by decide)))
      have F547 := F524.other W531 (Or.inr (slot_ne (Or.inl (wd64 hw)) (Or.inl (wd34 hw)) (by decide) (t := .int) (t' := .int) (by decide) (by decide)))
      have F548 := F525.other W531 (Or.inr (slot_ne (Or.inl (wd79 hw)) (Or.inl (wd34 hw)) (by decide) (t := .long) (t' := .int) (by decide) (by decide)))
      have F549 := F526.other W531 (Or.inr (slot_ne (Or.inl (wd30 hw)) (Or.inl (wd34 hw)) (by decide) (t := .long) (t' := .int) (by decide) (by decide)))
      refine WP.aloadN (pc' := 209) d_prog_24_method_2_208 rfl rfl rfl ?_
      refine WP.getF (pc' := 212) d_prog_24_method_2_209 rfl (host := "") (Or.inl (wd20 hw)) Via.refl F545 ?_
      refine WP.iloadN (pc' := 213) d_prog_24_method_2_212 rfl rfl ?_
      refine WP.iconst (pc' := 214) d_prog_24_method_2_213 rfl (z := 1) rfl ?_
      refine WP.isub (pc' := 215) d_prog_24_method_2_214 rfl ?_
      refine WP.aloadN (pc' := 216) d_prog_24_method_2_215 rfl rfl rfl ?_
      refine WP.getF (pc' := 219) d_prog_24_method_2_216 rfl (host := "") (Or.inl (wd33 hw)) Via.refl F543 ?_
      refine WP.iastoreI (x' := (us + pe)) (N - 1) (pc' := 220) d_prog_24_method_2_219 rfl V537 (pred hp (by omega)) lt1 ge451 rfl ?_
      intro h550 K551 A552
      have E553 := E533.keep K551
      have V554 := V534.keep K551 (ninS ne454 nin0)
      have V555 := V535.keep K551 (ninS ne455 nin0)
      have V556 := V536.keep K551 (ninS ne456 nin0)
      have V557 := V538.keep K551 (ninS ne453 nin0)
      have V558 := V539.keep K551 (ninS ne457 nin0)
      have F559 := F542.keep K551 (ninS ne452 nin0)
      have F560 := F543.keep K551 (ninS ne452 nin0)
      have F561 := F544.keep K551 (ninS ne452 nin0)
      have F562 := F545.keep K551 (ninS ne452 nin0)
      have F563 := F546.keep K551 (ninS ne452 nin0)
      have F564 := F547.keep K551 (ninS ne452 nin0)
      have F565 := F548.keep K551 (ninS ne452 nin0)
      have F566 := F549.keep K551 (ninS ne452 nin0)
      have O567 := O540.keep K551 (allS ge451 all0)
      have Z568 : n0 ≤ h550.size := Nat.le_trans Z541 K551.1
      refine WP.aload (pc' := 222) d_prog_24_method_2_220 rfl rfl rfl ?_
      refine WP.getS (pc' := 225) d_prog_24_method_2_222 rfl (host := "") (Or.inl (wd27 hw)) Via.refl (S_INC.ext O567.2) ?_
      have hc225 : ((.ref k) : Value) = (.ref ki) := hc5
      refine WP.acmp_ne (pc1 := 242) (pc2 := 228) d_prog_24_method_2_225 rfl rfl (by decide) (by decide) rfl (fun k => absurd hc225 k) (fun _ => ?_)
      refine WP.aloadN (pc' := 229) d_prog_24_method_2_228 rfl rfl rfl ?_
      refine WP.dup (pc' := 230) d_prog_24_method_2_229 rfl rfl ?_
      refine WP.getF (pc' := 233) d_prog_24_method_2_230 rfl (host := "") (Or.inl (wd78 hw)) Via.refl F565 ?_
      refine WP.lload (pc' := 235) d_prog_24_method_2_233 rfl rfl ?_
      refine WP.ladd (pc' := 236) d_prog_24_method_2_235 rfl ?_
      refine WP.putF (pc' := 239) d_prog_24_method_2_236 rfl (host := "") (Or.inl (wd78 hw)) Via.refl F565 E553 (Or.inl (wd79 hw)) (wd7 hw) (ty := .long) (by decide) rfl rfl g_a ?_
      intro h569 W570
      have Kw571 := Keep.of_wr W570
      have E572 := E553.keep Kw571
      have V573 := V554.keep Kw571 (ninS (Ne.symm n_a_sb) nin0)
      have V574 := V555.keep Kw571 (ninS (Ne.symm n_a_eb) nin0)
      have V575 := V556.keep Kw571 (ninS n_ln_a nin0)
      have V576 := V557.keep Kw571 (ninS (Ne.symm n_a_bb) nin0)
      have V577 := V558.keep Kw571 (ninS (Ne.symm ne412) nin0)
      have V578 := A552.keep Kw571 (ninS (Ne.symm ne452) nin0)
      have O579 := O567.keep Kw571 (allS g_a all0)
      have Z580 : n0 ≤ h569.size := Nat.le_trans Z568 Kw571.1
      have F581 := F559.other W570 (Or.inr (slot_ne (Or.inl (wd16 hw)) (Or.inl (wd79 hw)) (by decide) (t := (.array .byte)) (t' := .long) (by decide) (by decide)))
      have F582 := F560.other W570 (Or.inr (slot_ne (Or.inl (wd34 hw)) (Or.inl (wd79 hw)) (by decide) (t := .int) (t' := .long) (by decide) (by decide)))
      have F583 := F561.other W570 (Or.inr (slot_ne (Or.inl (wd19 hw)) (Or.inl (wd79 hw)) (by decide) (t := (.array .int)) (t' := .long) (by decide) (by decide)))
      have F584 := F562.other W570 (Or.inr (slot_ne (Or.inl (wd21 hw)) (Or.inl (wd79 hw)) (by decide) (t := (.array .int)) (t' := .long) (by decide) (by decide)))
      have F585 := F563.other W570 (Or.inr (slot_ne (Or.inl (wd76 hw)) (Or.inl (wd79 hw)) (by decide) (t := .int) (t' := .long) (by decide) (by decide)))
      have F586 := F564.other W570 (Or.inr (slot_ne (Or.inl (wd64 hw)) (Or.inl (wd79 hw)) (by decide) (t := .int) (t' := .long) (by decide) (by decide)))
      have F587 := F565.same W570
      have F588 := F566.other W570 (Or.inr (slot_ne (Or.inl (wd30 hw)) (Or.inl (wd79 hw)) (by decide) (t := .long) (t' := .long) (by decide) (by decide)))
      refine WP.goto (pc' := 253) d_prog_24_method_2_239 (by decide) (by decide) ?_
      refine WP.aloadN (pc' := 254) d_prog_24_method_2_253 rfl rfl rfl ?_
      refine WP.dup (pc' := 255) d_prog_24_method_2_254 rfl rfl ?_
      refine WP.getF (pc' := 258) d_prog_24_method_2_255 rfl (host := "") (Or.inl (wd63 hw)) Via.refl F586 ?_
      refine WP.iconst (pc' := 259) d_prog_24_method_2_258 rfl (z := 1) rfl ?_
      refine WP.iadd (pc' := 260) d_prog_24_method_2_259 rfl ?_
      refine WP.putF (pc' := 263) d_prog_24_method_2_260 rfl (host := "") (Or.inl (wd63 hw)) Via.refl F586 E572 (Or.inl (wd64 hw)) (wd7 hw) (ty := .int) (by decide) rfl rfl g_a ?_
      intro h589 W590
      have Kw591 := Keep.of_wr W590
      have E592 := E572.keep Kw591
      have V593 := V573.keep Kw591 (ninS (Ne.symm n_a_sb) nin0)
      have V594 := V574.keep Kw591 (ninS (Ne.symm n_a_eb) nin0)
      have V595 := V575.keep Kw591 (ninS n_ln_a nin0)
      have V596 := V576.keep Kw591 (ninS (Ne.symm n_a_bb) nin0)
      have V597 := V577.keep Kw591 (ninS (Ne.symm ne412) nin0)
      have V598 := V578.keep Kw591 (ninS (Ne.symm ne452) nin0)
      have O599 := O579.keep Kw591 (allS g_a all0)
      have Z600 : n0 ≤ h589.size := Nat.le_trans Z580 Kw591.1
      have F601 := F581.other W590 (Or.inr (slot_ne (Or.inl (wd16 hw)) (Or.inl (wd64 hw)) (by decide) (t := (.array .byte)) (t' := .int) (by decide) (by decide)))
      have F602 := F582.other W590 (Or.inr (slot_ne (Or.inl (wd34 hw)) (Or.inl (wd64 hw)) (by decide) (t := .int) (t' := .int) (by decide) (by decide)))
      have F603 := F583.other W590 (Or.inr (slot_ne (Or.inl (wd19 hw)) (Or.inl (wd64 hw)) (by decide) (t := (.array .int)) (t' := .int) (by decide) (by decide)))
      have F604 := F584.other W590 (Or.inr (slot_ne (Or.inl (wd21 hw)) (Or.inl (wd64 hw)) (by decide) (t := (.array .int)) (t' := .int) (by decide) (by decide)))
      have F605 := F585.other W590 (Or.inr (slot_ne (Or.inl (wd76 hw)) (Or.inl (wd64 hw)) (by decide) (t := .int) (t' := .int) (by decide) (by decide)))
      have F606 := F586.same W590
      have F607 := F587.other W590 (Or.inr (slot_ne (Or.inl (wd79 hw)) (Or.inl (wd64 hw)) (by decide) (t := .long) (t' := .int) (by decide) (by decide)))
      have F608 := F588.other W590 (Or.inr (slot_ne (Or.inl (wd30 hw)) (Or.inl (wd64 hw)) (by decide) (t := .long) (t' := .int) (by decide) (by decide)))
      refine WP.iconst (pc' := 264) d_prog_24_method_2_263 rfl (z := 1) rfl ?_
      refine WP.nret (t := .boolean) d_prog_24_method_2_264 rfl (by simp) rfl (by decide) (by decide) ⟨rfl, _, _, _, _, _, _, ⟨O599, ⟨E592, F601, F602, F603, F604, F605, F606, F607, F608⟩, ⟨⟨_, V596⟩, ⟨_, V597⟩, ⟨_, V598, fun i hi => if q : i = N - 1 then (by unfold updI; rw [if_pos q, if_pos q]) else if q2 : i < ne then (by unfold updI; rw [if_neg q, if_neg q]; exact (if_pos q2).trans (hE i q2)) else (by unfold updI; rw [if_neg q, if_neg q]; exact (if_neg q2).trans (hZ0 i (by omega)).symm)⟩, ⟨_, V595⟩⟩, ⟨g_a, g_bb, ge411, ge451⟩, ⟨ne413, ne453, ne457, n_a_bb, ne412, ne452, n_ln_a, n_ln_bb, ne416, ne456⟩, fun i hi => by unfold updI; rw [if_neg (by omega)]; exact hZ0 i (by omega)⟩, (sum_bd hB hu h3).1, by omega, by omega, by omega⟩
theorem d_prog_24_method_9_0 : decode prog_24_method_9_code 0 = .ok (.aload_n 0, 1) := by decide +kernel
theorem d_prog_24_method_9_1 : decode prog_24_method_9_code 1 = .ok (.getfield 19, 3) := by decide +kernel
theorem d_prog_24_method_9_4 : decode prog_24_method_9_code 4 = .ok (.iload_n 1, 1) := by decide +kernel
theorem d_prog_24_method_9_5 : decode prog_24_method_9_code 5 = .ok (.iconst 1, 1) := by decide +kernel
theorem d_prog_24_method_9_6 : decode prog_24_method_9_code 6 = .ok (.isub, 1) := by decide +kernel
theorem d_prog_24_method_9_7 : decode prog_24_method_9_code 7 = .ok (.iconst 0, 1) := by decide +kernel
theorem d_prog_24_method_9_8 : decode prog_24_method_9_code 8 = .ok (.iastore, 1) := by decide +kernel
theorem d_prog_24_method_9_9 : decode prog_24_method_9_code 9 = .ok (.aload_n 2, 1) := by decide +kernel
theorem d_prog_24_method_9_10 : decode prog_24_method_9_code 10 = .ok (.getstatic 22, 3) := by decide +kernel
theorem d_prog_24_method_9_13 : decode prog_24_method_9_code 13 = .ok (.if_acmp .ne 16, 3) := by decide +kernel
theorem d_prog_24_method_9_29 : decode prog_24_method_9_code 29 = .ok (.aload_n 0, 1) := by decide +kernel
theorem d_prog_24_method_9_30 : decode prog_24_method_9_code 30 = .ok (.dup, 1) := by decide +kernel
theorem d_prog_24_method_9_31 : decode prog_24_method_9_code 31 = .ok (.getfield 32, 3) := by decide +kernel
theorem d_prog_24_method_9_34 : decode prog_24_method_9_code 34 = .ok (.lload_n 3, 1) := by decide +kernel
theorem d_prog_24_method_9_35 : decode prog_24_method_9_code 35 = .ok (.lsub, 1) := by decide +kernel
theorem d_prog_24_method_9_36 : decode prog_24_method_9_code 36 = .ok (.putfield 32, 3) := by decide +kernel
theorem d_prog_24_method_9_39 : decode prog_24_method_9_code 39 = .ok (.aload_n 0, 1) := by decide +kernel
theorem d_prog_24_method_9_40 : decode prog_24_method_9_code 40 = .ok (.dup, 1) := by decide +kernel
theorem d_prog_24_method_9_41 : decode prog_24_method_9_code 41 = .ok (.getfield 77, 3) := by decide +kernel
theorem d_prog_24_method_9_44 : decode prog_24_method_9_code 44 = .ok (.iconst 1, 1) := by decide +kernel
theorem d_prog_24_method_9_45 : decode prog_24_method_9_code 45 = .ok (.isub, 1) := by decide +kernel
theorem d_prog_24_method_9_46 : decode prog_24_method_9_code 46 = .ok (.dup_x1, 1) := by decide +kernel
theorem d_prog_24_method_9_47 : decode prog_24_method_9_code 47 = .ok (.putfield 77, 3) := by decide +kernel
theorem d_prog_24_method_9_50 : decode prog_24_method_9_code 50 = .ok (.ifCond .ne 34, 3) := by decide +kernel
theorem d_prog_24_method_9_84 : decode prog_24_method_9_code 84 = .ok (.return_, 1) := by decide +kernel
theorem d_prog_24_method_9_16 : decode prog_24_method_9_code 16 = .ok (.aload_n 0, 1) := by decide +kernel
theorem d_prog_24_method_9_17 : decode prog_24_method_9_code 17 = .ok (.dup, 1) := by decide +kernel
theorem d_prog_24_method_9_18 : decode prog_24_method_9_code 18 = .ok (.getfield 28, 3) := by decide +kernel
theorem d_prog_24_method_9_21 : decode prog_24_method_9_code 21 = .ok (.lload_n 3, 1) := by decide +kernel
theorem d_prog_24_method_9_22 : decode prog_24_method_9_code 22 = .ok (.lsub, 1) := by decide +kernel
theorem d_prog_24_method_9_23 : decode prog_24_method_9_code 23 = .ok (.putfield 28, 3) := by decide +kernel
theorem d_prog_24_method_9_26 : decode prog_24_method_9_code 26 = .ok (.goto 13, 3) := by decide +kernel
set_option maxRecDepth 65536 in
set_option maxHeartbeats 40000000 in
theorem m_rem {Z : State} {a0 : Array Value} (hw : ∀ d ∈ tables_1, d.before a0 Z = true) (a : Addr) (p : Int32) (k : Addr) (u : Int64) (h0 : Heap) (n0 : Nat) (bb sb eb ln : Addr) (us lo ct : Int32) (inc exs : Int64) (nb ne nl : Nat) (E : Nat → Int32) (R0 : Rep Z n0 h0 a bb sb eb ln us lo ct inc exs nb ne nl E) (ki : Addr) (S_INC : Sta Z Z.heap "com/example/tallyfold/tallyfold/Entry$Kind" "INCOME" "Lcom/example/tallyfold/tallyfold/Entry$Kind;" (.ref ki)) (N : Nat) (hp : p.toInt = (N : Int)) (hN1 : 1 ≤ N) (hN2 : N ≤ ne) (hct : ¬ ct - 1 = 0) : ∀ l, Does l Z (⟨"com/example/tallyfold/tallyfold/EntryLines", "remove", "(ILcom/example/tallyfold/tallyfold/Entry$Kind;J)V"⟩ : MethodName) prog_24_method_9_code 5 none ({ frames := 0, cells := 0, slots := 0, locals := 0 } : Room) n0 #[(.ref a), (.int p), (.ref k), (.long u)] h0 (fun v h => v = none ∧ ∃ (inc' exs' : Int64), Rep Z n0 h a bb sb eb ln us lo (ct - 1) inc' exs' nb ne nl (updI E (N - 1) 0)) := by
  intro l
  refine Does.of_wp (plainFor_of_name pn_0) (Ls := #[.val (.ref a), .val (.int p), .val (.ref k), .val (.long u), .second]) (fun m => by first | (simp [entryFrame, mkF, argsToLocals, Value.category]; done) | rfl) ?_
  intro C
  obtain ⟨O0, ⟨E0, F_bytes, F_used, F_starts, F_ends, F_lowest, F_count, F_income, F_expenses⟩, ⟨⟨gB, B0⟩, ⟨gS, S0⟩, ⟨gE, D0, hE⟩, ⟨gL, L0⟩⟩, ⟨g_a, g_bb, g_sb, g_eb⟩, ⟨n_bb_sb, n_bb_eb, n_sb_eb, n_a_bb, n_a_sb, n_a_eb, n_ln_a, n_ln_bb, n_ln_sb, n_ln_eb⟩, hZ0⟩ := R0
  have Z0 : n0 ≤ h0.size := by have := O0.2.1; rw [O0.1] at this; exact this
  refine WP.aloadN (pc' := 1) d_prog_24_method_9_0 rfl rfl rfl ?_
  refine WP.getF (pc' := 4) d_prog_24_method_9_1 rfl (host := "") (Or.inl (wd20 hw)) Via.refl F_ends ?_
  refine WP.iloadN (pc' := 5) d_prog_24_method_9_4 rfl rfl ?_
  refine WP.iconst (pc' := 6) d_prog_24_method_9_5 rfl (z := 1) rfl ?_
  refine WP.isub (pc' := 7) d_prog_24_method_9_6 rfl ?_
  refine WP.iconst (pc' := 8) d_prog_24_method_9_7 rfl (z := 0) rfl ?_
  refine WP.iastoreI (x' := (0 : Int32)) (N - 1) (pc' := 9) d_prog_24_method_9_8 rfl D0 (pred hp (by omega)) (by omega) g_eb rfl ?_
  intro h1 K2 A3
  have E4 := E0.keep K2
  have F5 := F_bytes.keep K2 (ninS n_a_eb nin0)
  have F6 := F_used.keep K2 (ninS n_a_eb nin0)
  have F7 := F_starts.keep K2 (ninS n_a_eb nin0)
  have F8 := F_ends.keep K2 (ninS n_a_eb nin0)
  have F9 := F_lowest.keep K2 (ninS n_a_eb nin0)
  have F10 := F_count.keep K2 (ninS n_a_eb nin0)
  have F11 := F_income.keep K2 (ninS n_a_eb nin0)
  have F12 := F_expenses.keep K2 (ninS n_a_eb nin0)
  have V13 := B0.keep K2 (ninS n_bb_eb nin0)
  have V14 := S0.keep K2 (ninS n_sb_eb nin0)
  have V15 := L0.keep K2 (ninS n_ln_eb nin0)
  have O16 := O0.keep K2 (allS g_eb all0)
  have Z17 : n0 ≤ h1.size := Nat.le_trans Z0 K2.1
  refine WP.aloadN (pc' := 10) d_prog_24_method_9_9 rfl rfl rfl ?_
  refine WP.getS (pc' := 13) d_prog_24_method_9_10 rfl (host := "") (Or.inl (wd27 hw)) Via.refl (S_INC.ext O16.2) ?_
  refine WP.acmp_ne (pc1 := 29) (pc2 := 16) d_prog_24_method_9_13 rfl rfl (by decide) (by decide) rfl ?_ ?_
  · intro hc13
    refine WP.aloadN (pc' := 30) d_prog_24_method_9_29 rfl rfl rfl ?_
    refine WP.dup (pc' := 31) d_prog_24_method_9_30 rfl rfl ?_
    refine WP.getF (pc' := 34) d_prog_24_method_9_31 rfl (host := "") (Or.inl (wd29 hw)) Via.refl F12 ?_
    refine WP.lloadN (pc' := 35) d_prog_24_method_9_34 rfl rfl ?_
    refine WP.lsub (pc' := 36) d_prog_24_method_9_35 rfl ?_
    refine WP.putF (pc' := 39) d_prog_24_method_9_36 rfl (host := "") (Or.inl (wd29 hw)) Via.refl F12 E4 (Or.inl (wd30 hw)) (wd7 hw) (ty := .long) (by decide) rfl rfl g_a ?_
    intro h18 W19
    have Kw20 := Keep.of_wr W19
    have E21 := E4.keep Kw20
    have V22 := V13.keep Kw20 (ninS (Ne.symm n_a_bb) nin0)
    have V23 := V14.keep Kw20 (ninS (Ne.symm n_a_sb) nin0)
    have V24 := V15.keep Kw20 (ninS n_ln_a nin0)
    have V25 := A3.keep Kw20 (ninS (Ne.symm n_a_eb) nin0)
    have O26 := O16.keep Kw20 (allS g_a all0)
    have Z27 : n0 ≤ h18.size := Nat.le_trans Z17 Kw20.1
    have F28 := F5.other W19 (Or.inr (slot_ne (Or.inl (wd16 hw)) (Or.inl (wd30 hw)) (by decide) (t := (.array .byte)) (t' := .long) (by decide) (by decide)))
    have F29 := F6.other W19 (Or.inr (slot_ne (Or.inl (wd34 hw)) (Or.inl (wd30 hw)) (by decide) (t := .int) (t' := .long) (by decide) (by decide)))
    have F30 := F7.other W19 (Or.inr (slot_ne (Or.inl (wd19 hw)) (Or.inl (wd30 hw)) (by decide) (t := (.array .int)) (t' := .long) (by decide) (by decide)))
    have F31 := F8.other W19 (Or.inr (slot_ne (Or.inl (wd21 hw)) (Or.inl (wd30 hw)) (by decide) (t := (.array .int)) (t' := .long) (by decide) (by decide)))
    have F32 := F9.other W19 (Or.inr (slot_ne (Or.inl (wd76 hw)) (Or.inl (wd30 hw)) (by decide) (t := .int) (t' := .long) (by decide) (by decide)))
    have F33 := F10.other W19 (Or.inr (slot_ne (Or.inl (wd64 hw)) (Or.inl (wd30 hw)) (by decide) (t := .int) (t' := .long) (by decide) (by decide)))
    have F34 := F11.other W19 (Or.inr (slot_ne (Or.inl (wd79 hw)) (Or.inl (wd30 hw)) (by decide) (t := .long) (t' := .long) (by decide) (by decide)))
    have F35 := F12.same W19
    refine WP.aloadN (pc' := 40) d_prog_24_method_9_39 rfl rfl rfl ?_
    refine WP.dup (pc' := 41) d_prog_24_method_9_40 rfl rfl ?_
    refine WP.getF (pc' := 44) d_prog_24_method_9_41 rfl (host := "") (Or.inl (wd63 hw)) Via.refl F33 ?_
    refine WP.iconst (pc' := 45) d_prog_24_method_9_44 rfl (z := 1) rfl ?_
    refine WP.isub (pc' := 46) d_prog_24_method_9_45 rfl ?_
    refine WP.dupX1 (pc' := 47) d_prog_24_method_9_46 rfl rfl rfl ?_
    refine WP.putF (pc' := 50) d_prog_24_method_9_47 rfl (host := "") (Or.inl (wd63 hw)) Via.refl F33 E21 (Or.inl (wd64 hw)) (wd7 hw) (ty := .int) (by decide) rfl rfl g_a ?_
    intro h36 W37
    have Kw38 := Keep.of_wr W37
    have E39 := E21.keep Kw38
    have V40 := V22.keep Kw38 (ninS (Ne.symm n_a_bb) nin0)
    have V41 := V23.keep Kw38 (ninS (Ne.symm n_a_sb) nin0)
    have V42 := V24.keep Kw38 (ninS n_ln_a nin0)
    have V43 := V25.keep Kw38 (ninS (Ne.symm n_a_eb) nin0)
    have O44 := O26.keep Kw38 (allS g_a all0)
    have Z45 : n0 ≤ h36.size := Nat.le_trans Z27 Kw38.1
    have F46 := F28.other W37 (Or.inr (slot_ne (Or.inl (wd16 hw)) (Or.inl (wd64 hw)) (by decide) (t := (.array .byte)) (t' := .int) (by decide) (by decide)))
    have F47 := F29.other W37 (Or.inr (slot_ne (Or.inl (wd34 hw)) (Or.inl (wd64 hw)) (by decide) (t := .int) (t' := .int) (by decide) (by decide)))
    have F48 := F30.other W37 (Or.inr (slot_ne (Or.inl (wd19 hw)) (Or.inl (wd64 hw)) (by decide) (t := (.array .int)) (t' := .int) (by decide) (by decide)))
    have F49 := F31.other W37 (Or.inr (slot_ne (Or.inl (wd21 hw)) (Or.inl (wd64 hw)) (by decide) (t := (.array .int)) (t' := .int) (by decide) (by decide)))
    have F50 := F32.other W37 (Or.inr (slot_ne (Or.inl (wd76 hw)) (Or.inl (wd64 hw)) (by decide) (t := .int) (t' := .int) (by decide) (by decide)))
    have F51 := F33.same W37
    have F52 := F34.other W37 (Or.inr (slot_ne (Or.inl (wd79 hw)) (Or.inl (wd64 hw)) (by decide) (t := .long) (t' := .int) (by decide) (by decide)))
    have F53 := F35.other W37 (Or.inr (slot_ne (Or.inl (wd30 hw)) (Or.inl (wd64 hw)) (by decide) (t := .long) (t' := .int) (by decide) (by decide)))
    have hc50 : ¬ (ct - (1 : Int32)) = (0 : Int32) := hct
    refine WP.ifc_ne (pc1 := 84) (pc2 := 53) d_prog_24_method_9_50 (by decide) (by decide) rfl (fun _ => ?_) (fun k => absurd k hc50)
    exact WP.vret d_prog_24_method_9_84 rfl (by decide) (by decide) ⟨rfl, _, _, ⟨O44, ⟨E39, F46, F47, F48, F49, F50, F51, F52, F53⟩, ⟨⟨_, V40⟩, ⟨_, V41⟩, ⟨_, V43, fun i hi => if q : i = N - 1 then (by unfold updI; rw [if_pos q, if_pos q]) else (by unfold updI; rw [if_neg q, if_neg q]; exact hE i hi)⟩, ⟨_, V42⟩⟩, ⟨g_a, g_bb, g_sb, g_eb⟩, ⟨n_bb_sb, n_bb_eb, n_sb_eb, n_a_bb, n_a_sb, n_a_eb, n_ln_a, n_ln_bb, n_ln_sb, n_ln_eb⟩, fun i hi => by unfold updI; rw [if_neg (by omega)]; exact hZ0 i hi⟩⟩
  · intro hc13
    refine WP.aloadN (pc' := 17) d_prog_24_method_9_16 rfl rfl rfl ?_
    refine WP.dup (pc' := 18) d_prog_24_method_9_17 rfl rfl ?_
    refine WP.getF (pc' := 21) d_prog_24_method_9_18 rfl (host := "") (Or.inl (wd78 hw)) Via.refl F11 ?_
    refine WP.lloadN (pc' := 22) d_prog_24_method_9_21 rfl rfl ?_
    refine WP.lsub (pc' := 23) d_prog_24_method_9_22 rfl ?_
    refine WP.putF (pc' := 26) d_prog_24_method_9_23 rfl (host := "") (Or.inl (wd78 hw)) Via.refl F11 E4 (Or.inl (wd79 hw)) (wd7 hw) (ty := .long) (by decide) rfl rfl g_a ?_
    intro h54 W55
    have Kw56 := Keep.of_wr W55
    have E57 := E4.keep Kw56
    have V58 := V13.keep Kw56 (ninS (Ne.symm n_a_bb) nin0)
    have V59 := V14.keep Kw56 (ninS (Ne.symm n_a_sb) nin0)
    have V60 := V15.keep Kw56 (ninS n_ln_a nin0)
    have V61 := A3.keep Kw56 (ninS (Ne.symm n_a_eb) nin0)
    have O62 := O16.keep Kw56 (allS g_a all0)
    have Z63 : n0 ≤ h54.size := Nat.le_trans Z17 Kw56.1
    have F64 := F5.other W55 (Or.inr (slot_ne (Or.inl (wd16 hw)) (Or.inl (wd79 hw)) (by decide) (t := (.array .byte)) (t' := .long) (by decide) (by decide)))
    have F65 := F6.other W55 (Or.inr (slot_ne (Or.inl (wd34 hw)) (Or.inl (wd79 hw)) (by decide) (t := .int) (t' := .long) (by decide) (by decide)))
    have F66 := F7.other W55 (Or.inr (slot_ne (Or.inl (wd19 hw)) (Or.inl (wd79 hw)) (by decide) (t := (.array .int)) (t' := .long) (by decide) (by decide)))
    have F67 := F8.other W55 (Or.inr (slot_ne (Or.inl (wd21 hw)) (Or.inl (wd79 hw)) (by decide) (t := (.array .int)) (t' := .long) (by decide) (by decide)))
    have F68 := F9.other W55 (Or.inr (slot_ne (Or.inl (wd76 hw)) (Or.inl (wd79 hw)) (by decide) (t := .int) (t' := .long) (by decide) (by decide)))
    have F69 := F10.other W55 (Or.inr (slot_ne (Or.inl (wd64 hw)) (Or.inl (wd79 hw)) (by decide) (t := .int) (t' := .long) (by decide) (by decide)))
    have F70 := F11.same W55
    have F71 := F12.other W55 (Or.inr (slot_ne (Or.inl (wd30 hw)) (Or.inl (wd79 hw)) (by decide) (t := .long) (t' := .long) (by decide) (by decide)))
    refine WP.goto (pc' := 39) d_prog_24_method_9_26 (by decide) (by decide) ?_
    refine WP.aloadN (pc' := 40) d_prog_24_method_9_39 rfl rfl rfl ?_
    refine WP.dup (pc' := 41) d_prog_24_method_9_40 rfl rfl ?_
    refine WP.getF (pc' := 44) d_prog_24_method_9_41 rfl (host := "") (Or.inl (wd63 hw)) Via.refl F69 ?_
    refine WP.iconst (pc' := 45) d_prog_24_method_9_44 rfl (z := 1) rfl ?_
    refine WP.isub (pc' := 46) d_prog_24_method_9_45 rfl ?_
    refine WP.dupX1 (pc' := 47) d_prog_24_method_9_46 rfl rfl rfl ?_
    refine WP.putF (pc' := 50) d_prog_24_method_9_47 rfl (host := "") (Or.inl (wd63 hw)) Via.refl F69 E57 (Or.inl (wd64 hw)) (wd7 hw) (ty := .int) (by decide) rfl rfl g_a ?_
    intro h72 W73
    have Kw74 := Keep.of_wr W73
    have E75 := E57.keep Kw74
    have V76 := V58.keep Kw74 (ninS (Ne.symm n_a_bb) nin0)
    have V77 := V59.keep Kw74 (ninS (Ne.symm n_a_sb) nin0)
    have V78 := V60.keep Kw74 (ninS n_ln_a nin0)
    have V79 := V61.keep Kw74 (ninS (Ne.symm n_a_eb) nin0)
    have O80 := O62.keep Kw74 (allS g_a all0)
    have Z81 : n0 ≤ h72.size := Nat.le_trans Z63 Kw74.1
    have F82 := F64.other W73 (Or.inr (slot_ne (Or.inl (wd16 hw)) (Or.inl (wd64 hw)) (by decide) (t := (.array .byte)) (t' := .int) (by decide) (by decide)))
    have F83 := F65.other W73 (Or.inr (slot_ne (Or.inl (wd34 hw)) (Or.inl (wd64 hw)) (by decide) (t := .int) (t' := .int) (by decide) (by decide)))
    have F84 := F66.other W73 (Or.inr (slot_ne (Or.inl (wd19 hw)) (Or.inl (wd64 hw)) (by decide) (t := (.array .int)) (t' := .int) (by decide) (by decide)))
    have F85 := F67.other W73 (Or.inr (slot_ne (Or.inl (wd21 hw)) (Or.inl (wd64 hw)) (by decide) (t := (.array .int)) (t' := .int) (by decide) (by decide)))
    have F86 := F68.other W73 (Or.inr (slot_ne (Or.inl (wd76 hw)) (Or.inl (wd64 hw)) (by decide) (t := .int) (t' := .int) (by decide) (by decide)))
    have F87 := F69.same W73
    have F88 := F70.other W73 (Or.inr (slot_ne (Or.inl (wd79 hw)) (Or.inl (wd64 hw)) (by decide) (t := .long) (t' := .int) (by decide) (by decide)))
    have F89 := F71.other W73 (Or.inr (slot_ne (Or.inl (wd30 hw)) (Or.inl (wd64 hw)) (by decide) (t := .long) (t' := .int) (by decide) (by decide)))
    have hc50 : ¬ (ct - (1 : Int32)) = (0 : Int32) := hct
    refine WP.ifc_ne (pc1 := 84) (pc2 := 53) d_prog_24_method_9_50 (by decide) (by decide) rfl (fun _ => ?_) (fun k => absurd k hc50)
    exact WP.vret d_prog_24_method_9_84 rfl (by decide) (by decide) ⟨rfl, _, _, ⟨O80, ⟨E75, F82, F83, F84, F85, F86, F87, F88, F89⟩, ⟨⟨_, V76⟩, ⟨_, V77⟩, ⟨_, V79, fun i hi => if q : i = N - 1 then (by unfold updI; rw [if_pos q, if_pos q]) else (by unfold updI; rw [if_neg q, if_neg q]; exact hE i hi)⟩, ⟨_, V78⟩⟩, ⟨g_a, g_bb, g_sb, g_eb⟩, ⟨n_bb_sb, n_bb_eb, n_sb_eb, n_a_bb, n_a_sb, n_a_eb, n_ln_a, n_ln_bb, n_ln_sb, n_ln_eb⟩, fun i hi => by unfold updI; rw [if_neg (by omega)]; exact hZ0 i hi⟩⟩
theorem d_prog_24_method_5_0 : decode prog_24_method_5_code 0 = .ok (.aload_n 0, 1) := by decide +kernel
theorem d_prog_24_method_5_1 : decode prog_24_method_5_code 1 = .ok (.getfield 19, 3) := by decide +kernel
theorem d_prog_24_method_5_4 : decode prog_24_method_5_code 4 = .ok (.aload_n 0, 1) := by decide +kernel
theorem d_prog_24_method_5_5 : decode prog_24_method_5_code 5 = .ok (.getfield 80, 3) := by decide +kernel
theorem wd75 {Z : State} {a0 : Array Value} (hw : ∀ d ∈ tables_1, d.before a0 Z = true) : (Jvm.Cond.fieldLink "com/example/tallyfold/tallyfold/EntryLines" (80 : Nat) "com/example/tallyfold/tallyfold/EntryLines" "lowest" "I").before a0 Z = true := hw _ (List.mem_of_getElem? (i := 75) rfl)
theorem d_prog_24_method_5_8 : decode prog_24_method_5_code 8 = .ok (.iaload, 1) := by decide +kernel
theorem d_prog_24_method_5_9 : decode prog_24_method_5_code 9 = .ok (.ifCond .ne 16, 3) := by decide +kernel
theorem d_prog_24_method_5_25 : decode prog_24_method_5_code 25 = .ok (.aload_n 0, 1) := by decide +kernel
theorem d_prog_24_method_5_26 : decode prog_24_method_5_code 26 = .ok (.getfield 80, 3) := by decide +kernel
theorem d_prog_24_method_5_29 : decode prog_24_method_5_code 29 = .ok (.iconst 1, 1) := by decide +kernel
theorem d_prog_24_method_5_30 : decode prog_24_method_5_code 30 = .ok (.iadd, 1) := by decide +kernel
theorem d_prog_24_method_5_31 : decode prog_24_method_5_code 31 = .ok (.ireturn, 1) := by decide +kernel
theorem d_prog_24_method_5_12 : decode prog_24_method_5_code 12 = .ok (.aload_n 0, 1) := by decide +kernel
theorem d_prog_24_method_5_13 : decode prog_24_method_5_code 13 = .ok (.dup, 1) := by decide +kernel
theorem d_prog_24_method_5_14 : decode prog_24_method_5_code 14 = .ok (.getfield 80, 3) := by decide +kernel
theorem d_prog_24_method_5_17 : decode prog_24_method_5_code 17 = .ok (.iconst 1, 1) := by decide +kernel
theorem d_prog_24_method_5_18 : decode prog_24_method_5_code 18 = .ok (.iadd, 1) := by decide +kernel
theorem d_prog_24_method_5_19 : decode prog_24_method_5_code 19 = .ok (.putfield 80, 3) := by decide +kernel
theorem d_prog_24_method_5_22 : decode prog_24_method_5_code 22 = .ok (.goto (-22), 3) := by decide +kernel
set_option maxRecDepth 65536 in
set_option maxHeartbeats 40000000 in
theorem m_first {Z : State} {a0 : Array Value} (hw : ∀ d ∈ tables_1, d.before a0 Z = true) (a : Addr) (h0 : Heap) (n0 : Nat) (bb sb eb ln : Addr) (us lo ct : Int32) (inc exs : Int64) (nb ne nl : Nat) (E : Nat → Int32) (R0 : Rep Z n0 h0 a bb sb eb ln us lo ct inc exs nb ne nl E) (hne : ne < 100000) (J Lo : Nat) (hLo : lo.toInt = (Lo : Int)) (hLJ : Lo ≤ J) (hz : ∀ i, Lo ≤ i → i < J → E i = 0) (hJ : ¬ E J = 0) : ∀ l, Does l Z (⟨"com/example/tallyfold/tallyfold/EntryLines", "first", "()I"⟩ : MethodName) prog_24_method_5_code 1 (some .int) ({ frames := 0, cells := 0, slots := 0, locals := 0 } : Room) n0 #[(.ref a)] h0 (fun v h => ∃ r lo' : Int32, v = some (.int r) ∧ r.toInt = ((J + 1 : Nat) : Int) ∧ lo'.toInt = (J : Int) ∧ Rep Z n0 h a bb sb eb ln us lo' ct inc exs nb ne nl E) := by
  intro l
  refine Does.of_wp (plainFor_of_name pn_0) (Ls := #[.val (.ref a)]) (fun m => by first | (simp [entryFrame, mkF, argsToLocals, Value.category]; done) | rfl) ?_
  intro C
  have hJn : J < ne := Nat.lt_of_not_le fun q => hJ (R0.2.2.2.2.2 J q)
  have loop : ∀ (k : Nat) (hh : Heap) (lo : Int32) (L : Nat), lo.toInt = (L : Int) → Lo ≤ L → L ≤ J → J - L < k → Rep Z n0 hh a bb sb eb ln us lo ct inc exs nb ne nl E → WP C Z prog_24_method_5_code 1 "com/example/tallyfold/tallyfold/EntryLines" (some .int) "first" ({ frames := 0, cells := 0, slots := 0, locals := 0 } : Room) n0 (fun v h => ∃ r lo' : Int32, v = some (.int r) ∧ r.toInt = ((J + 1 : Nat) : Int) ∧ lo'.toInt = (J : Int) ∧ Rep Z n0 h a bb sb eb ln us lo' ct inc exs nb ne nl E) 0 0 hh 0 #[.val (.ref a)] [] := by
    intro k
    induction k with
    | zero => intro hh lo L h1 h2 h3 h4; omega
    | succ k IH =>
      intro hh lo L hL h2 h3 h4 R1
      obtain ⟨O0, ⟨E0, F_bytes, F_used, F_starts, F_ends, F_lowest, F_count, F_income, F_expenses⟩, ⟨⟨gB, B0⟩, ⟨gS, S0⟩, ⟨gE, D0, hE⟩, ⟨gL, L0⟩⟩, ⟨g_a, g_bb, g_sb, g_eb⟩, ⟨n_bb_sb, n_bb_eb, n_sb_eb, n_a_bb, n_a_sb, n_a_eb, n_ln_a, n_ln_bb, n_ln_sb, n_ln_eb⟩, hZ0⟩ := R1
      have Z0 : n0 ≤ hh.size := by have := O0.2.1; rw [O0.1] at this; exact this
      have lt1 : L < ne := by omega
      refine WP.aloadN (pc' := 1) d_prog_24_method_5_0 rfl rfl rfl ?_
      refine WP.getF (pc' := 4) d_prog_24_method_5_1 rfl (host := "") (Or.inl (wd20 hw)) Via.refl F_ends ?_
      refine WP.aloadN (pc' := 5) d_prog_24_method_5_4 rfl rfl rfl ?_
      refine WP.getF (pc' := 8) d_prog_24_method_5_5 rfl (host := "") (Or.inl (wd75 hw)) Via.refl F_lowest ?_
      refine WP.ialoadI (L) (pc' := 9) d_prog_24_method_5_8 rfl D0 hL lt1 rfl ?_
      refine WP.ifc_ne (pc1 := 25) (pc2 := 12) d_prog_24_method_5_9 (by decide) (by decide) rfl ?_ ?_
      · intro hc9
        have eJ : L = J := Nat.le_antisymm h3 (Nat.le_of_not_lt fun q => hc9 (by rw [hE _ lt1]; exact hz L h2 q))
        refine WP.aloadN (pc' := 26) d_prog_24_method_5_25 rfl rfl rfl ?_
        refine WP.getF (pc' := 29) d_prog_24_method_5_26 rfl (host := "") (Or.inl (wd75 hw)) Via.refl F_lowest ?_
        refine WP.iconst (pc' := 30) d_prog_24_method_5_29 rfl (z := 1) rfl ?_
        refine WP.iadd (pc' := 31) d_prog_24_method_5_30 rfl ?_
        refine WP.iret d_prog_24_method_5_31 rfl (by decide) (by decide) ⟨_, lo, rfl, by rw [adds hL (show (1 : Int32).toInt = ((1 : Nat) : Int) from rfl) (by omega), eJ], by rw [hL, eJ], ⟨O0, ⟨E0, F_bytes, F_used, F_starts, F_ends, F_lowest, F_count, F_income, F_expenses⟩, ⟨⟨_, B0⟩, ⟨_, S0⟩, ⟨_, D0, hE⟩, ⟨_, L0⟩⟩, ⟨g_a, g_bb, g_sb, g_eb⟩, ⟨n_bb_sb, n_bb_eb, n_sb_eb, n_a_bb, n_a_sb, n_a_eb, n_ln_a, n_ln_bb, n_ln_sb, n_ln_eb⟩, hZ0⟩⟩
      · intro hc9
        have hLJ2 : L < J := Nat.lt_of_le_of_ne h3 fun q => hJ (by rw [← q, ← hE _ lt1]; exact hc9)
        refine WP.aloadN (pc' := 13) d_prog_24_method_5_12 rfl rfl rfl ?_
        refine WP.dup (pc' := 14) d_prog_24_method_5_13 rfl rfl ?_
        refine WP.getF (pc' := 17) d_prog_24_method_5_14 rfl (host := "") (Or.inl (wd75 hw)) Via.refl F_lowest ?_
        refine WP.iconst (pc' := 18) d_prog_24_method_5_17 rfl (z := 1) rfl ?_
        refine WP.iadd (pc' := 19) d_prog_24_method_5_18 rfl ?_
        refine WP.putF (pc' := 22) d_prog_24_method_5_19 rfl (host := "") (Or.inl (wd75 hw)) Via.refl F_lowest E0 (Or.inl (wd76 hw)) (wd7 hw) (ty := .int) (by decide) rfl rfl g_a ?_
        intro h1 W2
        have Kw3 := Keep.of_wr W2
        have E4 := E0.keep Kw3
        have V5 := B0.keep Kw3 (ninS (Ne.symm n_a_bb) nin0)
        have V6 := S0.keep Kw3 (ninS (Ne.symm n_a_sb) nin0)
        have V7 := D0.keep Kw3 (ninS (Ne.symm n_a_eb) nin0)
        have V8 := L0.keep Kw3 (ninS n_ln_a nin0)
        have O9 := O0.keep Kw3 (allS g_a all0)
        have Z10 : n0 ≤ h1.size := Nat.le_trans Z0 Kw3.1
        have F11 := F_bytes.other W2 (Or.inr (slot_ne (Or.inl (wd16 hw)) (Or.inl (wd76 hw)) (by decide) (t := (.array .byte)) (t' := .int) (by decide) (by decide)))
        have F12 := F_used.other W2 (Or.inr (slot_ne (Or.inl (wd34 hw)) (Or.inl (wd76 hw)) (by decide) (t := .int) (t' := .int) (by decide) (by decide)))
        have F13 := F_starts.other W2 (Or.inr (slot_ne (Or.inl (wd19 hw)) (Or.inl (wd76 hw)) (by decide) (t := (.array .int)) (t' := .int) (by decide) (by decide)))
        have F14 := F_ends.other W2 (Or.inr (slot_ne (Or.inl (wd21 hw)) (Or.inl (wd76 hw)) (by decide) (t := (.array .int)) (t' := .int) (by decide) (by decide)))
        have F15 := F_lowest.same W2
        have F16 := F_count.other W2 (Or.inr (slot_ne (Or.inl (wd64 hw)) (Or.inl (wd76 hw)) (by decide) (t := .int) (t' := .int) (by decide) (by decide)))
        have F17 := F_income.other W2 (Or.inr (slot_ne (Or.inl (wd79 hw)) (Or.inl (wd76 hw)) (by decide) (t := .long) (t' := .int) (by decide) (by decide)))
        have F18 := F_expenses.other W2 (Or.inr (slot_ne (Or.inl (wd30 hw)) (Or.inl (wd76 hw)) (by decide) (t := .long) (t' := .int) (by decide) (by decide)))
        refine WP.goto (pc' := 0) d_prog_24_method_5_22 (by decide) (by decide) ?_
        exact IH h1 (lo + 1) (L + 1) (adds hL rfl (by omega)) (by omega) (by omega) (by omega) ⟨O9, ⟨E4, F11, F12, F13, F14, F15, F16, F17, F18⟩, ⟨⟨_, V5⟩, ⟨_, V6⟩, ⟨_, V7, hE⟩, ⟨_, V8⟩⟩, ⟨g_a, g_bb, g_sb, g_eb⟩, ⟨n_bb_sb, n_bb_eb, n_sb_eb, n_a_bb, n_a_sb, n_a_eb, n_ln_a, n_ln_bb, n_ln_sb, n_ln_eb⟩, hZ0⟩
  exact loop (J - Lo + 1) h0 lo Lo hLo (Nat.le_refl _) hLJ (by omega) R0
theorem wd0 {Z : State} {a0 : Array Value} (hw : ∀ d ∈ tables_1, d.before a0 Z = true) : (Jvm.Cond.constant "com/example/tallyfold/tallyfold/EntryLinesFirstPinLaw" (7 : Nat) (2147483647 : Int32)).before a0 Z = true := hw _ (List.mem_of_getElem? (i := 0) rfl)
theorem wd6 {Z : State} {a0 : Array Value} (hw : ∀ d ∈ tables_1, d.before a0 Z = true) : (Jvm.Cond.classLink "com/example/tallyfold/tallyfold/EntryLinesFirstPinLaw" (19 : Nat) "com/example/tallyfold/tallyfold/EntryLines").before a0 Z = true := hw _ (List.mem_of_getElem? (i := 6) rfl)
theorem wd8 {Z : State} {a0 : Array Value} (hw : ∀ d ∈ tables_1, d.before a0 Z = true) : (Jvm.Cond.initialized "com/example/tallyfold/tallyfold/EntryLines").before a0 Z = true := hw _ (List.mem_of_getElem? (i := 8) rfl)
theorem wd9 {Z : State} {a0 : Array Value} (hw : ∀ d ∈ tables_1, d.before a0 Z = true) : (Jvm.Cond.methodLink "com/example/tallyfold/tallyfold/EntryLinesFirstPinLaw" (21 : Nat) ({ cls := "com/example/tallyfold/tallyfold/EntryLines", name := "<init>", desc := "()V" } : Jvm.MethodName)).before a0 Z = true := hw _ (List.mem_of_getElem? (i := 9) rfl)
theorem wd11 {Z : State} {a0 : Array Value} (hw : ∀ d ∈ tables_1, d.before a0 Z = true) : (Jvm.Cond.code ({ cls := "com/example/tallyfold/tallyfold/EntryLines", name := "<init>", desc := "()V" } : Jvm.MethodName) prog_24_method_1_code (1 : Nat) (Option.none : Option Jvm.ClassFile.FieldType)).before a0 Z = true := hw _ (List.mem_of_getElem? (i := 11) rfl)
theorem pd_4 : parseMethodDescriptor "()V" = some ⟨[], none⟩ := by decide +kernel
theorem wd10 {Z : State} {a0 : Array Value} (hw : ∀ d ∈ tables_1, d.before a0 Z = true) : (Jvm.Cond.instanceMethod ({ cls := "com/example/tallyfold/tallyfold/EntryLines", name := "<init>", desc := "()V" } : Jvm.MethodName)).before a0 Z = true := hw _ (List.mem_of_getElem? (i := 10) rfl)
theorem wd22 {Z : State} {a0 : Array Value} (hw : ∀ d ∈ tables_1, d.before a0 Z = true) : (Jvm.Cond.methodLink "com/example/tallyfold/tallyfold/EntryLinesFirstPinLaw" (22 : Nat) ({ cls := "com/example/tallyfold/tallyfold/EntryLines", name := "keep", desc := "(I[BIILcom/example/tallyfold/tallyfold/Entry$Kind;J)Z" } : Jvm.MethodName)).before a0 Z = true := hw _ (List.mem_of_getElem? (i := 22) rfl)
theorem wd26 {Z : State} {a0 : Array Value} (hw : ∀ d ∈ tables_1, d.before a0 Z = true) : (Jvm.Cond.code ({ cls := "com/example/tallyfold/tallyfold/EntryLines", name := "keep", desc := "(I[BIILcom/example/tallyfold/tallyfold/Entry$Kind;J)Z" } : Jvm.MethodName) prog_24_method_2_code (13 : Nat) (Option.some Jvm.ClassFile.FieldType.boolean)).before a0 Z = true := hw _ (List.mem_of_getElem? (i := 26) rfl)
theorem pd_5 : parseMethodDescriptor "(I[BIILcom/example/tallyfold/tallyfold/Entry$Kind;J)Z" = some ⟨[.int, (.array .byte), .int, .int, (.object "com/example/tallyfold/tallyfold/Entry$Kind"), .long], some .boolean⟩ := by decide +kernel
theorem wd25 {Z : State} {a0 : Array Value} (hw : ∀ d ∈ tables_1, d.before a0 Z = true) : (Jvm.Cond.selects "com/example/tallyfold/tallyfold/EntryLines" ({ cls := "com/example/tallyfold/tallyfold/EntryLines", name := "keep", desc := "(I[BIILcom/example/tallyfold/tallyfold/Entry$Kind;J)Z" } : Jvm.MethodName) ({ cls := "com/example/tallyfold/tallyfold/EntryLines", name := "keep", desc := "(I[BIILcom/example/tallyfold/tallyfold/Entry$Kind;J)Z" } : Jvm.MethodName)).before a0 Z = true := hw _ (List.mem_of_getElem? (i := 25) rfl)
theorem wd23 {Z : State} {a0 : Array Value} (hw : ∀ d ∈ tables_1, d.before a0 Z = true) : (Jvm.Cond.declares ({ cls := "com/example/tallyfold/tallyfold/EntryLines", name := "keep", desc := "(I[BIILcom/example/tallyfold/tallyfold/Entry$Kind;J)Z" } : Jvm.MethodName)).before a0 Z = true := hw _ (List.mem_of_getElem? (i := 23) rfl)
theorem wd24 {Z : State} {a0 : Array Value} (hw : ∀ d ∈ tables_1, d.before a0 Z = true) : (Jvm.Cond.instanceMethod ({ cls := "com/example/tallyfold/tallyfold/EntryLines", name := "keep", desc := "(I[BIILcom/example/tallyfold/tallyfold/Entry$Kind;J)Z" } : Jvm.MethodName)).before a0 Z = true := hw _ (List.mem_of_getElem? (i := 24) rfl)
theorem wd70 {Z : State} {a0 : Array Value} (hw : ∀ d ∈ tables_1, d.before a0 Z = true) : (Jvm.Cond.methodLink "com/example/tallyfold/tallyfold/EntryLinesFirstPinLaw" (26 : Nat) ({ cls := "com/example/tallyfold/tallyfold/EntryLines", name := "first", desc := "()I" } : Jvm.MethodName)).before a0 Z = true := hw _ (List.mem_of_getElem? (i := 70) rfl)
theorem wd74 {Z : State} {a0 : Array Value} (hw : ∀ d ∈ tables_1, d.before a0 Z = true) : (Jvm.Cond.code ({ cls := "com/example/tallyfold/tallyfold/EntryLines", name := "first", desc := "()I" } : Jvm.MethodName) prog_24_method_5_code (1 : Nat) (Option.some Jvm.ClassFile.FieldType.int)).before a0 Z = true := hw _ (List.mem_of_getElem? (i := 74) rfl)
theorem pd_6 : parseMethodDescriptor "()I" = some ⟨[], some .int⟩ := by decide +kernel
theorem wd73 {Z : State} {a0 : Array Value} (hw : ∀ d ∈ tables_1, d.before a0 Z = true) : (Jvm.Cond.selects "com/example/tallyfold/tallyfold/EntryLines" ({ cls := "com/example/tallyfold/tallyfold/EntryLines", name := "first", desc := "()I" } : Jvm.MethodName) ({ cls := "com/example/tallyfold/tallyfold/EntryLines", name := "first", desc := "()I" } : Jvm.MethodName)).before a0 Z = true := hw _ (List.mem_of_getElem? (i := 73) rfl)
theorem wd71 {Z : State} {a0 : Array Value} (hw : ∀ d ∈ tables_1, d.before a0 Z = true) : (Jvm.Cond.declares ({ cls := "com/example/tallyfold/tallyfold/EntryLines", name := "first", desc := "()I" } : Jvm.MethodName)).before a0 Z = true := hw _ (List.mem_of_getElem? (i := 71) rfl)
theorem wd72 {Z : State} {a0 : Array Value} (hw : ∀ d ∈ tables_1, d.before a0 Z = true) : (Jvm.Cond.instanceMethod ({ cls := "com/example/tallyfold/tallyfold/EntryLines", name := "first", desc := "()I" } : Jvm.MethodName)).before a0 Z = true := hw _ (List.mem_of_getElem? (i := 72) rfl)
theorem wd65 {Z : State} {a0 : Array Value} (hw : ∀ d ∈ tables_1, d.before a0 Z = true) : (Jvm.Cond.methodLink "com/example/tallyfold/tallyfold/EntryLinesFirstPinLaw" (30 : Nat) ({ cls := "com/example/tallyfold/tallyfold/EntryLines", name := "remove", desc := "(ILcom/example/tallyfold/tallyfold/Entry$Kind;J)V" } : Jvm.MethodName)).before a0 Z = true := hw _ (List.mem_of_getElem? (i := 65) rfl)
theorem wd69 {Z : State} {a0 : Array Value} (hw : ∀ d ∈ tables_1, d.before a0 Z = true) : (Jvm.Cond.code ({ cls := "com/example/tallyfold/tallyfold/EntryLines", name := "remove", desc := "(ILcom/example/tallyfold/tallyfold/Entry$Kind;J)V" } : Jvm.MethodName) prog_24_method_9_code (5 : Nat) (Option.none : Option Jvm.ClassFile.FieldType)).before a0 Z = true := hw _ (List.mem_of_getElem? (i := 69) rfl)
theorem pd_7 : parseMethodDescriptor "(ILcom/example/tallyfold/tallyfold/Entry$Kind;J)V" = some ⟨[.int, (.object "com/example/tallyfold/tallyfold/Entry$Kind"), .long], none⟩ := by decide +kernel
theorem wd68 {Z : State} {a0 : Array Value} (hw : ∀ d ∈ tables_1, d.before a0 Z = true) : (Jvm.Cond.selects "com/example/tallyfold/tallyfold/EntryLines" ({ cls := "com/example/tallyfold/tallyfold/EntryLines", name := "remove", desc := "(ILcom/example/tallyfold/tallyfold/Entry$Kind;J)V" } : Jvm.MethodName) ({ cls := "com/example/tallyfold/tallyfold/EntryLines", name := "remove", desc := "(ILcom/example/tallyfold/tallyfold/Entry$Kind;J)V" } : Jvm.MethodName)).before a0 Z = true := hw _ (List.mem_of_getElem? (i := 68) rfl)
theorem wd66 {Z : State} {a0 : Array Value} (hw : ∀ d ∈ tables_1, d.before a0 Z = true) : (Jvm.Cond.declares ({ cls := "com/example/tallyfold/tallyfold/EntryLines", name := "remove", desc := "(ILcom/example/tallyfold/tallyfold/Entry$Kind;J)V" } : Jvm.MethodName)).before a0 Z = true := hw _ (List.mem_of_getElem? (i := 66) rfl)
theorem wd67 {Z : State} {a0 : Array Value} (hw : ∀ d ∈ tables_1, d.before a0 Z = true) : (Jvm.Cond.instanceMethod ({ cls := "com/example/tallyfold/tallyfold/EntryLines", name := "remove", desc := "(ILcom/example/tallyfold/tallyfold/Entry$Kind;J)V" } : Jvm.MethodName)).before a0 Z = true := hw _ (List.mem_of_getElem? (i := 67) rfl)
theorem wd1 {Z : State} {a0 : Array Value} (hw : ∀ d ∈ tables_1, d.before a0 Z = true) : (Jvm.Cond.fieldLink "com/example/tallyfold/tallyfold/EntryLinesFirstPinLaw" (14 : Nat) "com/example/tallyfold/tallyfold/Entry$Kind" "EXPENSE" "Lcom/example/tallyfold/tallyfold/Entry$Kind;").before a0 Z = true := hw _ (List.mem_of_getElem? (i := 1) rfl)
theorem wd4 {Z : State} {a0 : Array Value} (hw : ∀ d ∈ tables_1, d.before a0 Z = true) : (Jvm.Cond.constantLong "com/example/tallyfold/tallyfold/EntryLinesFirstPinLaw" (17 : Nat) (4294967295 : Int64)).before a0 Z = true := hw _ (List.mem_of_getElem? (i := 4) rfl)
theorem wd77 {Z : State} {a0 : Array Value} (hw : ∀ d ∈ tables_1, d.before a0 Z = true) : (Jvm.Cond.fieldLink "com/example/tallyfold/tallyfold/EntryLinesFirstPinLaw" (8 : Nat) "com/example/tallyfold/tallyfold/Entry$Kind" "INCOME" "Lcom/example/tallyfold/tallyfold/Entry$Kind;").before a0 Z = true := hw _ (List.mem_of_getElem? (i := 77) rfl)
theorem pn_2 : plainName "com/example/tallyfold/tallyfold/EntryLinesFirstPinLaw" = true := by first | (simp [plainName, overriddenIn]; done) | decide +kernel
set_option maxRecDepth 65536 in
set_option maxHeartbeats 40000000 in
theorem rm0 {Z : State} {a0 : Array Value} (hw : ∀ d ∈ tables_1, d.before a0 Z = true) (x0 : Int32) (x1 : Int32) (x2 : Int32) (x3 : Int32) (x4 : Int64) (h0 : Heap) (n0 : Nat) (Z0 : n0 ≤ h0.size) (O0 : Old Z n0 h0) (ki : Addr) (S_INC : Sta Z Z.heap "com/example/tallyfold/tallyfold/Entry$Kind" "INCOME" "Lcom/example/tallyfold/tallyfold/Entry$Kind;" (.ref ki)) (ke : Addr) (S_EXP : Sta Z Z.heap "com/example/tallyfold/tallyfold/Entry$Kind" "EXPENSE" "Lcom/example/tallyfold/tallyfold/Entry$Kind;" (.ref ke)) : ∀ l, Does l Z x code maxLocals ret room_1 n0 #[(.int x0), (.int x1), (.int x2), (.int x3), (.long x4)] h0 (fun v _ => v = some (.int 1)) := by
  intro l
  refine Does.of_wp (plainFor_of_name pn_2) (Ls := #[.val (.int x0), .val (.int x1), .val (.int x2), .val (.int x3), .val (.long x4), .second, .unset, .unset, .unset, .unset, .unset, .unset, .unset, .unset, .unset, .unset, .unset, .unset, .unset, .unset, .unset, .unset, .unset]) (fun m => by first | (simp [entryFrame, mkF, argsToLocals, Value.category, maxLocals]; done) | rfl) ?_
  intro C
  refine WP.iconst (pc' := 1) at_0 rfl (z := 1) rfl ?_
  refine WP.iloadN (pc' := 2) at_1 rfl rfl ?_
  refine WP.bipush (pc' := 4) at_2 rfl (z := 31) rfl ?_
  refine WP.iand (pc' := 5) at_4 rfl ?_
  refine WP.iadd (pc' := 6) at_5 rfl ?_
  generalize ht1 : ((1 : Int32) + (x0 &&& (31 : Int32))) = t1
  refine WP.istore (pc' := 8) at_6 rfl (Ls' := #[.val (.int x0), .val (.int x1), .val (.int x2), .val (.int x3), .val (.long x4), .second, .val (.int t1), .unset, .unset, .unset, .unset, .unset, .unset, .unset, .unset, .unset, .unset, .unset, .unset, .unset, .unset, .unset, .unset]) rfl ?_
  refine WP.iload (pc' := 10) at_8 rfl rfl ?_
  refine WP.iconst (pc' := 11) at_10 rfl (z := 1) rfl ?_
  refine WP.iadd (pc' := 12) at_11 rfl ?_
  refine WP.iloadN (pc' := 13) at_12 rfl rfl ?_
  refine WP.bipush (pc' := 15) at_13 rfl (z := 31) rfl ?_
  refine WP.iand (pc' := 16) at_15 rfl ?_
  refine WP.iadd (pc' := 17) at_16 rfl ?_
  generalize ht2 : ((t1 + (1 : Int32)) + (x1 &&& (31 : Int32))) = t2
  refine WP.istore (pc' := 19) at_17 rfl (Ls' := #[.val (.int x0), .val (.int x1), .val (.int x2), .val (.int x3), .val (.long x4), .second, .val (.int t1), .val (.int t2), .unset, .unset, .unset, .unset, .unset, .unset, .unset, .unset, .unset, .unset, .unset, .unset, .unset, .unset, .unset]) rfl ?_
  refine WP.iload (pc' := 21) at_19 rfl rfl ?_
  refine WP.iconst (pc' := 22) at_21 rfl (z := 1) rfl ?_
  refine WP.iadd (pc' := 23) at_22 rfl ?_
  refine WP.iloadN (pc' := 24) at_23 rfl rfl ?_
  refine WP.bipush (pc' := 26) at_24 rfl (z := 31) rfl ?_
  refine WP.iand (pc' := 27) at_26 rfl ?_
  refine WP.iadd (pc' := 28) at_27 rfl ?_
  generalize ht3 : ((t2 + (1 : Int32)) + (x2 &&& (31 : Int32))) = t3
  refine WP.istore (pc' := 30) at_28 rfl (Ls' := #[.val (.int x0), .val (.int x1), .val (.int x2), .val (.int x3), .val (.long x4), .second, .val (.int t1), .val (.int t2), .val (.int t3), .unset, .unset, .unset, .unset, .unset, .unset, .unset, .unset, .unset, .unset, .unset, .unset, .unset, .unset]) rfl ?_
  refine WP.iloadN (pc' := 31) at_30 rfl rfl ?_
  refine WP.ldcI (pc' := 33) at_31 rfl (wd0 hw) ?_
  refine WP.iand (pc' := 34) at_33 rfl ?_
  refine WP.bipush (pc' := 36) at_34 rfl (z := 7) rfl ?_
  refine WP.irem (pc' := 37) at_36 rfl (by decide) ?_
  generalize ht4 : ((x3 &&& (2147483647 : Int32)) % (7 : Int32)) = t4
  refine WP.istore (pc' := 39) at_37 rfl (Ls' := #[.val (.int x0), .val (.int x1), .val (.int x2), .val (.int x3), .val (.long x4), .second, .val (.int t1), .val (.int t2), .val (.int t3), .val (.int t4), .unset, .unset, .unset, .unset, .unset, .unset, .unset, .unset, .unset, .unset, .unset, .unset, .unset]) rfl ?_
  have v1 : 1 ≤ t1.toInt ∧ t1.toInt ≤ 32 := by rw [← ht1]; exact n1v _
  have v2 : t1.toInt < t2.toInt ∧ t2.toInt ≤ 64 := by rw [← ht2]; exact n2v _ v1 (by omega)
  have v3 : t2.toInt < t3.toInt ∧ t3.toInt ≤ 96 := by rw [← ht3]; exact n2v _ (show 1 ≤ t2.toInt ∧ t2.toInt ≤ 64 from ⟨by omega, v2.2⟩) (by omega)
  have v9 : 0 ≤ t4.toInt ∧ t4.toInt ≤ 6 := by rw [← ht4]; exact rem7 _
  obtain ⟨N1, hN1⟩ : ∃ n : Nat, t1.toInt = (n : Int) := ⟨t1.toInt.toNat, by omega⟩
  obtain ⟨N2, hN2⟩ : ∃ n : Nat, t2.toInt = (n : Int) := ⟨t2.toInt.toNat, by omega⟩
  obtain ⟨N3, hN3⟩ : ∃ n : Nat, t3.toInt = (n : Int) := ⟨t3.toInt.toNat, by omega⟩
  have L139 : ∀ (w10 pe : Int32) (u : Int64) (k11 k12 k13 : Addr), (1 ≤ pe.toInt ∧ pe.toInt ≤ 3) → (1 ≤ u.toInt ∧ u.toInt ≤ 4294967296) → WP C Z code maxLocals "com/example/tallyfold/tallyfold/EntryLinesFirstPinLaw" ret "law" room_1 n0 (fun v _ => v = some (.int 1)) 0 0 h0 139 #[.val (.int x0), .val (.int x1), .val (.int x2), .val (.int x3), .val (.long x4), .second, .val (.int t1), .val (.int t2), .val (.int t3), .val (.int t4), .val (.int w10), .val (.ref k11), .val (.ref k12), .val (.ref k13), .val (.int pe), .val (.long u), .second, .unset, .unset, .unset, .unset, .unset, .unset] [] := by
    intro w10 pe u k11 k12 k13 bp bu
    obtain ⟨len, hlen⟩ : ∃ n : Nat, pe.toInt = (n : Int) := ⟨pe.toInt.toNat, by omega⟩
    have z1 := nz_of (adds (a := 0) (m := 0) rfl hlen (by omega)) (by omega)
    have z2 := nz_of (adds (adds (a := 0) (m := 0) rfl hlen (by omega)) hlen (by omega)) (by omega)
    have z3 := nz_of (adds (adds (adds (a := 0) (m := 0) rfl hlen (by omega)) hlen (by omega)) hlen (by omega)) (by omega)
    refine WP.iconst (pc' := 140) at_139 rfl (z := 3) rfl ?_
    refine WP.newPI (ty := .byte) (n := 3) (cap := 3) (cl' := 1) (sl' := 3) (pc' := 142) at_140 rfl rfl rfl (wd5 hw) (by decide) (by decide) (by decide) rfl rfl (by decide) (by decide) ?_
    intro h5 b5 g5 E5 A5
    have ge6 : n0 ≤ b5 := by rw [g5]; exact Z0
    have O7 := O0.ext E5
    have Z8 : n0 ≤ h5.size := Nat.le_trans Z0 E5.1
    refine WP.dup (pc' := 143) at_142 rfl rfl ?_
    refine WP.iconst (pc' := 144) at_143 rfl (z := 0) rfl ?_
    refine WP.iloadN (pc' := 145) at_144 rfl rfl ?_
    refine WP.i2b (pc' := 146) at_145 rfl ?_
    refine WP.bastoreI (x' := (nar .byte (x0.toInt8.toInt32))) (0) (pc' := 147) at_146 rfl A5 (by decide) (by decide) ge6 rfl ?_
    intro h9 K10 A11
    have O12 := O7.keep K10 (allS ge6 all0)
    have Z13 : n0 ≤ h9.size := Nat.le_trans Z8 K10.1
    refine WP.dup (pc' := 148) at_147 rfl rfl ?_
    refine WP.iconst (pc' := 149) at_148 rfl (z := 1) rfl ?_
    refine WP.iloadN (pc' := 150) at_149 rfl rfl ?_
    refine WP.i2b (pc' := 151) at_150 rfl ?_
    refine WP.bastoreI (x' := (nar .byte (x1.toInt8.toInt32))) (1) (pc' := 152) at_151 rfl A11 (by decide) (by decide) ge6 rfl ?_
    intro h14 K15 A16
    have O17 := O12.keep K15 (allS ge6 all0)
    have Z18 : n0 ≤ h14.size := Nat.le_trans Z13 K15.1
    refine WP.dup (pc' := 153) at_152 rfl rfl ?_
    refine WP.iconst (pc' := 154) at_153 rfl (z := 2) rfl ?_
    refine WP.iloadN (pc' := 155) at_154 rfl rfl ?_
    refine WP.i2b (pc' := 156) at_155 rfl ?_
    refine WP.bastoreI (x' := (nar .byte (x2.toInt8.toInt32))) (2) (pc' := 157) at_156 rfl A16 (by decide) (by decide) ge6 rfl ?_
    intro h19 K20 A21
    have O22 := O17.keep K20 (allS ge6 all0)
    have Z23 : n0 ≤ h19.size := Nat.le_trans Z18 K20.1
    refine WP.astore (pc' := 159) at_157 rfl rfl (Ls' := #[.val (.int x0), .val (.int x1), .val (.int x2), .val (.int x3), .val (.long x4), .second, .val (.int t1), .val (.int t2), .val (.int t3), .val (.int t4), .val (.int w10), .val (.ref k11), .val (.ref k12), .val (.ref k13), .val (.int pe), .val (.long u), .second, .val (.ref b5), .unset, .unset, .unset, .unset, .unset]) rfl ?_
    obtain ⟨ln, hln⟩ : ∃ z, z = b5 := ⟨_, rfl⟩
    rw [← hln]
    rw [← hln] at A21
    refine WP.newO (cl' := 2) (sl' := 11) (pc' := 162) at_159 rfl (wd6 hw) (wd7 hw) (wd8 hw) rfl rfl (by decide) (by decide) ?_
    intro h24 b24 g24 E24 A24 D24
    have ge25 : n0 ≤ b24 := by rw [g24]; exact Z23
    have ne26 : ln ≠ b24 := by rw [g24]; exact Nat.ne_of_lt A21.lt
    have V27 := A21.ext E24
    have O28 := O22.ext E24
    have Z29 : n0 ≤ h24.size := Nat.le_trans Z23 E24.1
    have F30 : Fld Z h24 b24 "com/example/tallyfold/tallyfold/EntryLines" "bytes" "[B" .null := D24 (Or.inl (wd16 hw)) (ty := (.array .byte)) (by decide)
    have F31 : Fld Z h24 b24 "com/example/tallyfold/tallyfold/EntryLines" "starts" "[I" .null := D24 (Or.inl (wd19 hw)) (ty := (.array .int)) (by decide)
    have F32 : Fld Z h24 b24 "com/example/tallyfold/tallyfold/EntryLines" "ends" "[I" .null := D24 (Or.inl (wd21 hw)) (ty := (.array .int)) (by decide)
    have F33 : Fld Z h24 b24 "com/example/tallyfold/tallyfold/EntryLines" "expenses" "J" (.long (0 : Int64)) := D24 (Or.inl (wd30 hw)) (ty := .long) (by decide)
    have F34 : Fld Z h24 b24 "com/example/tallyfold/tallyfold/EntryLines" "used" "I" (.int (0 : Int32)) := D24 (Or.inl (wd34 hw)) (ty := .int) (by decide)
    have F35 : Fld Z h24 b24 "com/example/tallyfold/tallyfold/EntryLines" "count" "I" (.int (0 : Int32)) := D24 (Or.inl (wd64 hw)) (ty := .int) (by decide)
    have F36 : Fld Z h24 b24 "com/example/tallyfold/tallyfold/EntryLines" "lowest" "I" (.int (0 : Int32)) := D24 (Or.inl (wd76 hw)) (ty := .int) (by decide)
    have F37 : Fld Z h24 b24 "com/example/tallyfold/tallyfold/EntryLines" "income" "J" (.long (0 : Int64)) := D24 (Or.inl (wd79 hw)) (ty := .long) (by decide)
    refine WP.dup (pc' := 163) at_162 rfl rfl ?_
    refine WP.callI (a := b24) (argsL := []) (rest := [(.ref b24)]) (wd := 1) (cl' := 5) (sl' := 11) (pc' := 166) at_163 rfl rfl (wd9 hw) (wd10 hw) (wd8 hw) (wd11 hw) (by decide) (m_ini hw b24 h24 n0 O28 Z29 ge25 A24 F30 F34 F31 F32 F36 F35 F37 F33 ln 3 (updI (updI (updI (fun _ => 0) 0 (nar .byte (x0.toInt8.toInt32))) 1 (nar .byte (x1.toInt8.toInt32))) 2 (nar .byte (x2.toInt8.toInt32))) V27 ne26) pd_4 rfl rfl rfl (Nat.le_of_eq rfl) (by decide) (by decide) rfl rfl (by decide) (by decide) ?_
    rintro v h38 ⟨rfl, bb38, sb38, eb38, R38⟩
    refine WP.castS (st' := [(.ref b24)]) rfl ?_
    refine WP.astore (pc' := 168) at_166 rfl rfl (Ls' := #[.val (.int x0), .val (.int x1), .val (.int x2), .val (.int x3), .val (.long x4), .second, .val (.int t1), .val (.int t2), .val (.int t3), .val (.int t4), .val (.int w10), .val (.ref k11), .val (.ref k12), .val (.ref k13), .val (.int pe), .val (.long u), .second, .val (.ref ln), .val (.ref b24), .unset, .unset, .unset, .unset]) rfl ?_
    refine WP.aload (pc' := 170) at_168 rfl rfl rfl ?_
    refine WP.iload (pc' := 172) at_170 rfl rfl ?_
    refine WP.aload (pc' := 174) at_172 rfl rfl rfl ?_
    refine WP.iconst (pc' := 175) at_174 rfl (z := 0) rfl ?_
    refine WP.iload (pc' := 177) at_175 rfl rfl ?_
    refine WP.aload (pc' := 179) at_177 rfl rfl rfl ?_
    refine WP.lload (pc' := 181) at_179 rfl rfl ?_
    refine WP.callV (a := b24) (K := "com/example/tallyfold/tallyfold/EntryLines") (argsL := [(.int t1), (.ref ln), (.int (0 : Int32)), (.int pe), (.ref k11), (.long u)]) (rest := []) (wd := 0) (cl' := 8) (sl' := 4235) (pc' := 184) at_181 rfl (wd22 hw) (wd23 hw) (nfS (wd25 hw) rfl) (wd25 hw) (wd24 hw) (wd8 hw) (wd26 hw) (by decide) R38.2.1.1 (m_keep1 hw b24 t1 ln pe k11 u h38 n0 bb38 sb38 eb38 0 0 0 0 0 3 (fun _ => 0) R38 ki S_INC N1 0 len hN1 rfl hlen (by omega) (by omega) (by omega) (by omega) (by omega) (by omega) 0 bd0 (by omega) (by omega)) pd_5 rfl rfl rfl (Nat.le_of_eq rfl) (by decide) (by decide) rfl rfl (by decide) (by decide) ?_
    rintro v h39 ⟨rfl, bb39, sb39, eb39, inc39, exs39, ne39, R39, B39, l139, l239, l339⟩
    refine WP.castS (st' := [(.int (1 : Int32))]) rfl ?_
    refine WP.istore (pc' := 186) at_184 rfl (Ls' := #[.val (.int x0), .val (.int x1), .val (.int x2), .val (.int x3), .val (.long x4), .second, .val (.int t1), .val (.int t2), .val (.int t3), .val (.int t4), .val (.int w10), .val (.ref k11), .val (.ref k12), .val (.ref k13), .val (.int pe), .val (.long u), .second, .val (.ref ln), .val (.ref b24), .val (.int (1 : Int32)), .unset, .unset, .unset]) rfl ?_
    refine WP.aload (pc' := 188) at_186 rfl rfl rfl ?_
    refine WP.iload (pc' := 190) at_188 rfl rfl ?_
    refine WP.aload (pc' := 192) at_190 rfl rfl rfl ?_
    refine WP.iconst (pc' := 193) at_192 rfl (z := 0) rfl ?_
    refine WP.iload (pc' := 195) at_193 rfl rfl ?_
    refine WP.aload (pc' := 197) at_195 rfl rfl rfl ?_
    refine WP.lload (pc' := 199) at_197 rfl rfl ?_
    refine WP.callV (a := b24) (K := "com/example/tallyfold/tallyfold/EntryLines") (argsL := [(.int t2), (.ref ln), (.int (0 : Int32)), (.int pe), (.ref k12), (.long u)]) (rest := []) (wd := 0) (cl' := 10) (sl' := 4491) (pc' := 202) at_199 rfl (wd22 hw) (wd23 hw) (nfS (wd25 hw) rfl) (wd25 hw) (wd24 hw) (wd8 hw) (wd26 hw) (by decide) R39.2.1.1 (m_keep2 hw b24 t2 ln pe k12 u h39 n0 bb39 sb39 eb39 (0 + pe) 0 (0 + 1) inc39 exs39 ne39 3 (updI (fun _ => 0) (N1 - 1) (0 + pe)) R39 ki S_INC N2 (0 + len) len hN2 (adds rfl hlen (by omega)) hlen (by omega) (by omega) (by omega) (by omega) (by omega) (by omega) (0 + u.toInt) B39 (by omega) (by omega) (by omega)) pd_5 rfl rfl rfl (Nat.le_of_eq rfl) (by decide) (by decide) rfl rfl (by decide) (by decide) ?_
    rintro v h40 ⟨rfl, bb40, sb40, eb40, inc40, exs40, ne40, R40, B40, l140, l240, l340⟩
    refine WP.castS (st' := [(.int (1 : Int32))]) rfl ?_
    have hc202 : ¬ (1 : Int32) = (0 : Int32) := by decide
    refine WP.ifc_eq (pc1 := 214) (pc2 := 205) at_202 (by decide) (by decide) rfl (fun k => absurd k hc202) (fun _ => ?_)
    refine WP.iload (pc' := 207) at_205 rfl rfl ?_
    have hc207 : ¬ (1 : Int32) = (0 : Int32) := by decide
    refine WP.ifc_eq (pc1 := 214) (pc2 := 210) at_207 (by decide) (by decide) rfl (fun k => absurd k hc207) (fun _ => ?_)
    refine WP.iconst (pc' := 211) at_210 rfl (z := 1) rfl ?_
    refine WP.goto (pc' := 215) at_211 (by decide) (by decide) ?_
    refine WP.istore (pc' := 217) at_215 rfl (Ls' := #[.val (.int x0), .val (.int x1), .val (.int x2), .val (.int x3), .val (.long x4), .second, .val (.int t1), .val (.int t2), .val (.int t3), .val (.int t4), .val (.int w10), .val (.ref k11), .val (.ref k12), .val (.ref k13), .val (.int pe), .val (.long u), .second, .val (.ref ln), .val (.ref b24), .val (.int (1 : Int32)), .unset, .unset, .unset]) rfl ?_
    refine WP.aload (pc' := 219) at_217 rfl rfl rfl ?_
    refine WP.iload (pc' := 221) at_219 rfl rfl ?_
    refine WP.aload (pc' := 223) at_221 rfl rfl rfl ?_
    refine WP.iconst (pc' := 224) at_223 rfl (z := 0) rfl ?_
    refine WP.iload (pc' := 226) at_224 rfl rfl ?_
    refine WP.aload (pc' := 228) at_226 rfl rfl rfl ?_
    refine WP.lload (pc' := 230) at_228 rfl rfl ?_
    refine WP.callV (a := b24) (K := "com/example/tallyfold/tallyfold/EntryLines") (argsL := [(.int t3), (.ref ln), (.int (0 : Int32)), (.int pe), (.ref k13), (.long u)]) (rest := []) (wd := 0) (cl' := 12) (sl' := 4747) (pc' := 233) at_230 rfl (wd22 hw) (wd23 hw) (nfS (wd25 hw) rfl) (wd25 hw) (wd24 hw) (wd8 hw) (wd26 hw) (by decide) R40.2.1.1 (m_keep2 hw b24 t3 ln pe k13 u h40 n0 bb40 sb40 eb40 ((0 + pe) + pe) 0 ((0 + 1) + 1) inc40 exs40 ne40 3 (updI (updI (fun _ => 0) (N1 - 1) (0 + pe)) (N2 - 1) ((0 + pe) + pe)) R40 ki S_INC N3 (0 + len + len) len hN3 (adds (adds rfl hlen (by omega)) hlen (by omega)) hlen (by omega) (by omega) (by omega) (by omega) (by omega) (by omega) ((0 + u.toInt) + u.toInt) B40 (by omega) (by omega) (by omega)) pd_5 rfl rfl rfl (Nat.le_of_eq rfl) (by decide) (by decide) rfl rfl (by decide) (by decide) ?_
    rintro v h41 ⟨rfl, bb41, sb41, eb41, inc41, exs41, ne41, R41, B41, l141, l241, l341⟩
    refine WP.castS (st' := [(.int (1 : Int32))]) rfl ?_
    have hc233 : ¬ (1 : Int32) = (0 : Int32) := by decide
    refine WP.ifc_eq (pc1 := 245) (pc2 := 236) at_233 (by decide) (by decide) rfl (fun k => absurd k hc233) (fun _ => ?_)
    refine WP.iload (pc' := 238) at_236 rfl rfl ?_
    have hc238 : ¬ (1 : Int32) = (0 : Int32) := by decide
    refine WP.ifc_eq (pc1 := 245) (pc2 := 241) at_238 (by decide) (by decide) rfl (fun k => absurd k hc238) (fun _ => ?_)
    refine WP.iconst (pc' := 242) at_241 rfl (z := 1) rfl ?_
    refine WP.goto (pc' := 246) at_242 (by decide) (by decide) ?_
    refine WP.istore (pc' := 248) at_246 rfl (Ls' := #[.val (.int x0), .val (.int x1), .val (.int x2), .val (.int x3), .val (.long x4), .second, .val (.int t1), .val (.int t2), .val (.int t3), .val (.int t4), .val (.int w10), .val (.ref k11), .val (.ref k12), .val (.ref k13), .val (.int pe), .val (.long u), .second, .val (.ref ln), .val (.ref b24), .val (.int (1 : Int32)), .unset, .unset, .unset]) rfl ?_
    have L275 : ∀ (hh : Heap) (lo : Int32) (Lo : Nat), lo.toInt = (Lo : Int) → Lo ≤ N1 - 1 → Rep Z n0 hh b24 bb41 sb41 eb41 ln (((0 + pe) + pe) + pe) lo (((0 + 1) + 1) + 1) inc41 exs41 4096 ne41 3 (updI (updI (updI (fun _ => 0) (N1 - 1) (0 + pe)) (N2 - 1) ((0 + pe) + pe)) (N3 - 1) (((0 + pe) + pe) + pe)) → WP C Z code maxLocals "com/example/tallyfold/tallyfold/EntryLinesFirstPinLaw" ret "law" room_1 n0 (fun v _ => v = some (.int 1)) 12 4747 hh 275 #[.val (.int x0), .val (.int x1), .val (.int x2), .val (.int x3), .val (.long x4), .second, .val (.int t1), .val (.int t2), .val (.int t3), .val (.int t4), .val (.int w10), .val (.ref k11), .val (.ref k12), .val (.ref k13), .val (.int pe), .val (.long u), .second, .val (.ref ln), .val (.ref b24), .val (.int (1 : Int32)), .unset, .unset, .unset] [] := by
      intro hh lo Lo hLo hLe RR
      refine WP.iload (pc' := 277) at_275 rfl rfl ?_
      refine WP.iconst (pc' := 278) at_277 rfl (z := 1) rfl ?_
      refine WP.iand (pc' := 279) at_278 rfl ?_
      refine WP.ifc_eq (pc1 := 293) (pc2 := 282) at_279 (by decide) (by decide) rfl ?_ ?_
      · intro hc279
        refine WP.iload (pc' := 295) at_293 rfl rfl ?_
        refine WP.iconst (pc' := 296) at_295 rfl (z := 2) rfl ?_
        refine WP.iand (pc' := 297) at_296 rfl ?_
        refine WP.ifc_eq (pc1 := 311) (pc2 := 300) at_297 (by decide) (by decide) rfl ?_ ?_
        · intro hc297
          refine WP.iload (pc' := 313) at_311 rfl rfl ?_
          refine WP.iconst (pc' := 314) at_313 rfl (z := 4) rfl ?_
          refine WP.iand (pc' := 315) at_314 rfl ?_
          refine WP.ifc_eq (pc1 := 329) (pc2 := 318) at_315 (by decide) (by decide) rfl ?_ ?_
          · intro hc315
            refine WP.iload (pc' := 331) at_329 rfl rfl ?_
            refine WP.iconst (pc' := 332) at_331 rfl (z := 1) rfl ?_
            refine WP.iand (pc' := 333) at_332 rfl ?_
            have hc333 : (t4 &&& (1 : Int32)) = (0 : Int32) := hc279
            refine WP.ifc_ne (pc1 := 341) (pc2 := 336) at_333 (by decide) (by decide) rfl (fun k => absurd hc333 k) (fun _ => ?_)
            refine WP.iload (pc' := 338) at_336 rfl rfl ?_
            refine WP.goto (pc' := 355) at_338 (by decide) (by decide) ?_
            refine WP.istore (pc' := 357) at_355 rfl (Ls' := #[.val (.int x0), .val (.int x1), .val (.int x2), .val (.int x3), .val (.long x4), .second, .val (.int t1), .val (.int t2), .val (.int t3), .val (.int t4), .val (.int w10), .val (.ref k11), .val (.ref k12), .val (.ref k13), .val (.int pe), .val (.long u), .second, .val (.ref ln), .val (.ref b24), .val (.int (1 : Int32)), .val (.int t1), .unset, .unset]) rfl ?_
            refine WP.aload (pc' := 359) at_357 rfl rfl rfl ?_
            refine WP.callV (a := b24) (K := "com/example/tallyfold/tallyfold/EntryLines") (argsL := []) (rest := []) (wd := 0) (cl' := 12) (sl' := 4747) (pc' := 362) at_359 rfl (wd70 hw) (wd71 hw) (nfS (wd73 hw) rfl) (wd73 hw) (wd72 hw) (wd8 hw) (wd74 hw) (by decide) RR.2.1.1 (m_first hw b24 hh n0 bb41 sb41 eb41 ln (((0 + pe) + pe) + pe) lo (((0 + 1) + 1) + 1) inc41 exs41 4096 ne41 3 (updI (updI (updI (fun _ => 0) (N1 - 1) (0 + pe)) (N2 - 1) ((0 + pe) + pe)) (N3 - 1) (((0 + pe) + pe) + pe)) RR (by omega) (N1 - 1) Lo hLo (by omega) (fun i q1 q2 => by simp only [updI_zero, z1, z2, z3, eq_self, and_true, true_and, and_false, false_and, false_or, or_false, not_true_eq_false, not_false_eq_true] <;> omega) (by simp only [updI_zero, z1, z2, z3, eq_self, and_true, true_and, and_false, false_and, false_or, or_false, not_true_eq_false, not_false_eq_true] <;> omega)) pd_6 rfl rfl rfl (Nat.le_of_eq rfl) (by decide) (by decide) rfl rfl (by decide) (by decide) ?_
            rintro v h42 ⟨r42, lo42, rfl, hr42, hl42, R42⟩
            refine WP.castS (st' := [(.int r42)]) rfl ?_
            refine WP.istore (pc' := 364) at_362 rfl (Ls' := #[.val (.int x0), .val (.int x1), .val (.int x2), .val (.int x3), .val (.long x4), .second, .val (.int t1), .val (.int t2), .val (.int t3), .val (.int t4), .val (.int w10), .val (.ref k11), .val (.ref k12), .val (.ref k13), .val (.int pe), .val (.long u), .second, .val (.ref ln), .val (.ref b24), .val (.int (1 : Int32)), .val (.int t1), .val (.int r42), .unset]) rfl ?_
            refine WP.aload (pc' := 366) at_364 rfl rfl rfl ?_
            refine WP.callV (a := b24) (K := "com/example/tallyfold/tallyfold/EntryLines") (argsL := []) (rest := []) (wd := 0) (cl' := 12) (sl' := 4747) (pc' := 369) at_366 rfl (wd70 hw) (wd71 hw) (nfS (wd73 hw) rfl) (wd73 hw) (wd72 hw) (wd8 hw) (wd74 hw) (by decide) R42.2.1.1 (m_first hw b24 h42 n0 bb41 sb41 eb41 ln (((0 + pe) + pe) + pe) lo42 (((0 + 1) + 1) + 1) inc41 exs41 4096 ne41 3 (updI (updI (updI (fun _ => 0) (N1 - 1) (0 + pe)) (N2 - 1) ((0 + pe) + pe)) (N3 - 1) (((0 + pe) + pe) + pe)) R42 (by omega) (N1 - 1) (N1 - 1) hl42 (by omega) (fun i q1 q2 => by simp only [updI_zero, z1, z2, z3, eq_self, and_true, true_and, and_false, false_and, false_or, or_false, not_true_eq_false, not_false_eq_true] <;> omega) (by simp only [updI_zero, z1, z2, z3, eq_self, and_true, true_and, and_false, false_and, false_or, or_false, not_true_eq_false, not_false_eq_true] <;> omega)) pd_6 rfl rfl rfl (Nat.le_of_eq rfl) (by decide) (by decide) rfl rfl (by decide) (by decide) ?_
            rintro v h43 ⟨r43, lo43, rfl, hr43, hl43, R43⟩
            refine WP.castS (st' := [(.int r43)]) rfl ?_
            refine WP.istore (pc' := 371) at_369 rfl (Ls' := #[.val (.int x0), .val (.int x1), .val (.int x2), .val (.int x3), .val (.long x4), .second, .val (.int t1), .val (.int t2), .val (.int t3), .val (.int t4), .val (.int w10), .val (.ref k11), .val (.ref k12), .val (.ref k13), .val (.int pe), .val (.long u), .second, .val (.ref ln), .val (.ref b24), .val (.int (1 : Int32)), .val (.int t1), .val (.int r42), .val (.int r43)]) rfl ?_
            refine WP.iload (pc' := 373) at_371 rfl rfl ?_
            have hc373 : ¬ (1 : Int32) = (0 : Int32) := by decide
            refine WP.ifc_eq (pc1 := 394) (pc2 := 376) at_373 (by decide) (by decide) rfl (fun k => absurd k hc373) (fun _ => ?_)
            refine WP.iload (pc' := 378) at_376 rfl rfl ?_
            refine WP.iload (pc' := 380) at_378 rfl rfl ?_
            have hc380 : r42 = t1 := Int32.toInt_inj.mp (by rw [hr42, hN1]; omega)
            refine WP.icmp_ne (pc1 := 394) (pc2 := 383) at_380 (by decide) (by decide) rfl (fun k => absurd hc380 k) (fun _ => ?_)
            refine WP.iload (pc' := 385) at_383 rfl rfl ?_
            refine WP.iload (pc' := 387) at_385 rfl rfl ?_
            have hc387 : r43 = t1 := Int32.toInt_inj.mp (by rw [hr43, hN1]; omega)
            refine WP.icmp_ne (pc1 := 394) (pc2 := 390) at_387 (by decide) (by decide) rfl (fun k => absurd hc387 k) (fun _ => ?_)
            refine WP.iconst (pc' := 391) at_390 rfl (z := 1) rfl ?_
            refine WP.goto (pc' := 395) at_391 (by decide) (by decide) ?_
            refine WP.nret (t := .boolean) at_395 rfl (by simp) rfl (by decide) (by decide) rfl
          · intro hc315
            refine WP.aload (pc' := 320) at_318 rfl rfl rfl ?_
            refine WP.iload (pc' := 322) at_320 rfl rfl ?_
            refine WP.aload (pc' := 324) at_322 rfl rfl rfl ?_
            refine WP.lload (pc' := 326) at_324 rfl rfl ?_
            refine WP.callV (a := b24) (K := "com/example/tallyfold/tallyfold/EntryLines") (argsL := [(.int t3), (.ref k13), (.long u)]) (rest := []) (wd := 0) (cl' := 12) (sl' := 4747) (pc' := 329) at_326 rfl (wd65 hw) (wd66 hw) (nfS (wd68 hw) rfl) (wd68 hw) (wd67 hw) (wd8 hw) (wd69 hw) (by decide) RR.2.1.1 (m_rem hw b24 t3 k13 u hh n0 bb41 sb41 eb41 ln (((0 + pe) + pe) + pe) lo (((0 + 1) + 1) + 1) inc41 exs41 4096 ne41 3 (updI (updI (updI (fun _ => 0) (N1 - 1) (0 + pe)) (N2 - 1) ((0 + pe) + pe)) (N3 - 1) (((0 + pe) + pe) + pe)) RR ki S_INC N3 hN3 (by omega) (by omega) (by decide)) pd_7 rfl rfl rfl (Nat.le_of_eq rfl) (by decide) (by decide) rfl rfl (by decide) (by decide) ?_
            rintro v h44 ⟨rfl, inc44, exs44, R44⟩
            refine WP.castS (st' := []) rfl ?_
            refine WP.iload (pc' := 331) at_329 rfl rfl ?_
            refine WP.iconst (pc' := 332) at_331 rfl (z := 1) rfl ?_
            refine WP.iand (pc' := 333) at_332 rfl ?_
            have hc333 : (t4 &&& (1 : Int32)) = (0 : Int32) := hc279
            refine WP.ifc_ne (pc1 := 341) (pc2 := 336) at_333 (by decide) (by decide) rfl (fun k => absurd hc333 k) (fun _ => ?_)
            refine WP.iload (pc' := 338) at_336 rfl rfl ?_
            refine WP.goto (pc' := 355) at_338 (by decide) (by decide) ?_
            refine WP.istore (pc' := 357) at_355 rfl (Ls' := #[.val (.int x0), .val (.int x1), .val (.int x2), .val (.int x3), .val (.long x4), .second, .val (.int t1), .val (.int t2), .val (.int t3), .val (.int t4), .val (.int w10), .val (.ref k11), .val (.ref k12), .val (.ref k13), .val (.int pe), .val (.long u), .second, .val (.ref ln), .val (.ref b24), .val (.int (1 : Int32)), .val (.int t1), .unset, .unset]) rfl ?_
            refine WP.aload (pc' := 359) at_357 rfl rfl rfl ?_
            refine WP.callV (a := b24) (K := "com/example/tallyfold/tallyfold/EntryLines") (argsL := []) (rest := []) (wd := 0) (cl' := 12) (sl' := 4747) (pc' := 362) at_359 rfl (wd70 hw) (wd71 hw) (nfS (wd73 hw) rfl) (wd73 hw) (wd72 hw) (wd8 hw) (wd74 hw) (by decide) R44.2.1.1 (m_first hw b24 h44 n0 bb41 sb41 eb41 ln (((0 + pe) + pe) + pe) lo ((((0 + 1) + 1) + 1) - 1) inc44 exs44 4096 ne41 3 (updI (updI (updI (updI (fun _ => 0) (N1 - 1) (0 + pe)) (N2 - 1) ((0 + pe) + pe)) (N3 - 1) (((0 + pe) + pe) + pe)) (N3 - 1) 0) R44 (by omega) (N1 - 1) Lo hLo (by omega) (fun i q1 q2 => by simp only [updI_zero, z1, z2, z3, eq_self, and_true, true_and, and_false, false_and, false_or, or_false, not_true_eq_false, not_false_eq_true] <;> omega) (by simp only [updI_zero, z1, z2, z3, eq_self, and_true, true_and, and_false, false_and, false_or, or_false, not_true_eq_false, not_false_eq_true] <;> omega)) pd_6 rfl rfl rfl (Nat.le_of_eq rfl) (by decide) (by decide) rfl rfl (by decide) (by decide) ?_
            rintro v h45 ⟨r45, lo45, rfl, hr45, hl45, R45⟩
            refine WP.castS (st' := [(.int r45)]) rfl ?_
            refine WP.istore (pc' := 364) at_362 rfl (Ls' := #[.val (.int x0), .val (.int x1), .val (.int x2), .val (.int x3), .val (.long x4), .second, .val (.int t1), .val (.int t2), .val (.int t3), .val (.int t4), .val (.int w10), .val (.ref k11), .val (.ref k12), .val (.ref k13), .val (.int pe), .val (.long u), .second, .val (.ref ln), .val (.ref b24), .val (.int (1 : Int32)), .val (.int t1), .val (.int r45), .unset]) rfl ?_
            refine WP.aload (pc' := 366) at_364 rfl rfl rfl ?_
            refine WP.callV (a := b24) (K := "com/example/tallyfold/tallyfold/EntryLines") (argsL := []) (rest := []) (wd := 0) (cl' := 12) (sl' := 4747) (pc' := 369) at_366 rfl (wd70 hw) (wd71 hw) (nfS (wd73 hw) rfl) (wd73 hw) (wd72 hw) (wd8 hw) (wd74 hw) (by decide) R45.2.1.1 (m_first hw b24 h45 n0 bb41 sb41 eb41 ln (((0 + pe) + pe) + pe) lo45 ((((0 + 1) + 1) + 1) - 1) inc44 exs44 4096 ne41 3 (updI (updI (updI (updI (fun _ => 0) (N1 - 1) (0 + pe)) (N2 - 1) ((0 + pe) + pe)) (N3 - 1) (((0 + pe) + pe) + pe)) (N3 - 1) 0) R45 (by omega) (N1 - 1) (N1 - 1) hl45 (by omega) (fun i q1 q2 => by simp only [updI_zero, z1, z2, z3, eq_self, and_true, true_and, and_false, false_and, false_or, or_false, not_true_eq_false, not_false_eq_true] <;> omega) (by simp only [updI_zero, z1, z2, z3, eq_self, and_true, true_and, and_false, false_and, false_or, or_false, not_true_eq_false, not_false_eq_true] <;> omega)) pd_6 rfl rfl rfl (Nat.le_of_eq rfl) (by decide) (by decide) rfl rfl (by decide) (by decide) ?_
            rintro v h46 ⟨r46, lo46, rfl, hr46, hl46, R46⟩
            refine WP.castS (st' := [(.int r46)]) rfl ?_
            refine WP.istore (pc' := 371) at_369 rfl (Ls' := #[.val (.int x0), .val (.int x1), .val (.int x2), .val (.int x3), .val (.long x4), .second, .val (.int t1), .val (.int t2), .val (.int t3), .val (.int t4), .val (.int w10), .val (.ref k11), .val (.ref k12), .val (.ref k13), .val (.int pe), .val (.long u), .second, .val (.ref ln), .val (.ref b24), .val (.int (1 : Int32)), .val (.int t1), .val (.int r45), .val (.int r46)]) rfl ?_
            refine WP.iload (pc' := 373) at_371 rfl rfl ?_
            have hc373 : ¬ (1 : Int32) = (0 : Int32) := by decide
            refine WP.ifc_eq (pc1 := 394) (pc2 := 376) at_373 (by decide) (by decide) rfl (fun k => absurd k hc373) (fun _ => ?_)
            refine WP.iload (pc' := 378) at_376 rfl rfl ?_
            refine WP.iload (pc' := 380) at_378 rfl rfl ?_
            have hc380 : r45 = t1 := Int32.toInt_inj.mp (by rw [hr45, hN1]; omega)
            refine WP.icmp_ne (pc1 := 394) (pc2 := 383) at_380 (by decide) (by decide) rfl (fun k => absurd hc380 k) (fun _ => ?_)
            refine WP.iload (pc' := 385) at_383 rfl rfl ?_
            refine WP.iload (pc' := 387) at_385 rfl rfl ?_
            have hc387 : r46 = t1 := Int32.toInt_inj.mp (by rw [hr46, hN1]; omega)
            refine WP.icmp_ne (pc1 := 394) (pc2 := 390) at_387 (by decide) (by decide) rfl (fun k => absurd hc387 k) (fun _ => ?_)
            refine WP.iconst (pc' := 391) at_390 rfl (z := 1) rfl ?_
            refine WP.goto (pc' := 395) at_391 (by decide) (by decide) ?_
            refine WP.nret (t := .boolean) at_395 rfl (by simp) rfl (by decide) (by decide) rfl
        · intro hc297
          refine WP.aload (pc' := 302) at_300 rfl rfl rfl ?_
          refine WP.iload (pc' := 304) at_302 rfl rfl ?_
          refine WP.aload (pc' := 306) at_304 rfl rfl rfl ?_
          refine WP.lload (pc' := 308) at_306 rfl rfl ?_
          refine WP.callV (a := b24) (K := "com/example/tallyfold/tallyfold/EntryLines") (argsL := [(.int t2), (.ref k12), (.long u)]) (rest := []) (wd := 0) (cl' := 12) (sl' := 4747) (pc' := 311) at_308 rfl (wd65 hw) (wd66 hw) (nfS (wd68 hw) rfl) (wd68 hw) (wd67 hw) (wd8 hw) (wd69 hw) (by decide) RR.2.1.1 (m_rem hw b24 t2 k12 u hh n0 bb41 sb41 eb41 ln (((0 + pe) + pe) + pe) lo (((0 + 1) + 1) + 1) inc41 exs41 4096 ne41 3 (updI (updI (updI (fun _ => 0) (N1 - 1) (0 + pe)) (N2 - 1) ((0 + pe) + pe)) (N3 - 1) (((0 + pe) + pe) + pe)) RR ki S_INC N2 hN2 (by omega) (by omega) (by decide)) pd_7 rfl rfl rfl (Nat.le_of_eq rfl) (by decide) (by decide) rfl rfl (by decide) (by decide) ?_
          rintro v h47 ⟨rfl, inc47, exs47, R47⟩
          refine WP.castS (st' := []) rfl ?_
          refine WP.iload (pc' := 313) at_311 rfl rfl ?_
          refine WP.iconst (pc' := 314) at_313 rfl (z := 4) rfl ?_
          refine WP.iand (pc' := 315) at_314 rfl ?_
          refine WP.ifc_eq (pc1 := 329) (pc2 := 318) at_315 (by decide) (by decide) rfl ?_ ?_
          · intro hc315
            refine WP.iload (pc' := 331) at_329 rfl rfl ?_
            refine WP.iconst (pc' := 332) at_331 rfl (z := 1) rfl ?_
            refine WP.iand (pc' := 333) at_332 rfl ?_
            have hc333 : (t4 &&& (1 : Int32)) = (0 : Int32) := hc279
            refine WP.ifc_ne (pc1 := 341) (pc2 := 336) at_333 (by decide) (by decide) rfl (fun k => absurd hc333 k) (fun _ => ?_)
            refine WP.iload (pc' := 338) at_336 rfl rfl ?_
            refine WP.goto (pc' := 355) at_338 (by decide) (by decide) ?_
            refine WP.istore (pc' := 357) at_355 rfl (Ls' := #[.val (.int x0), .val (.int x1), .val (.int x2), .val (.int x3), .val (.long x4), .second, .val (.int t1), .val (.int t2), .val (.int t3), .val (.int t4), .val (.int w10), .val (.ref k11), .val (.ref k12), .val (.ref k13), .val (.int pe), .val (.long u), .second, .val (.ref ln), .val (.ref b24), .val (.int (1 : Int32)), .val (.int t1), .unset, .unset]) rfl ?_
            refine WP.aload (pc' := 359) at_357 rfl rfl rfl ?_
            refine WP.callV (a := b24) (K := "com/example/tallyfold/tallyfold/EntryLines") (argsL := []) (rest := []) (wd := 0) (cl' := 12) (sl' := 4747) (pc' := 362) at_359 rfl (wd70 hw) (wd71 hw) (nfS (wd73 hw) rfl) (wd73 hw) (wd72 hw) (wd8 hw) (wd74 hw) (by decide) R47.2.1.1 (m_first hw b24 h47 n0 bb41 sb41 eb41 ln (((0 + pe) + pe) + pe) lo ((((0 + 1) + 1) + 1) - 1) inc47 exs47 4096 ne41 3 (updI (updI (updI (updI (fun _ => 0) (N1 - 1) (0 + pe)) (N2 - 1) ((0 + pe) + pe)) (N3 - 1) (((0 + pe) + pe) + pe)) (N2 - 1) 0) R47 (by omega) (N1 - 1) Lo hLo (by omega) (fun i q1 q2 => by simp only [updI_zero, z1, z2, z3, eq_self, and_true, true_and, and_false, false_and, false_or, or_false, not_true_eq_false, not_false_eq_true] <;> omega) (by simp only [updI_zero, z1, z2, z3, eq_self, and_true, true_and, and_false, false_and, false_or, or_false, not_true_eq_false, not_false_eq_true] <;> omega)) pd_6 rfl rfl rfl (Nat.le_of_eq rfl) (by decide) (by decide) rfl rfl (by decide) (by decide) ?_
            rintro v h48 ⟨r48, lo48, rfl, hr48, hl48, R48⟩
            refine WP.castS (st' := [(.int r48)]) rfl ?_
            refine WP.istore (pc' := 364) at_362 rfl (Ls' := #[.val (.int x0), .val (.int x1), .val (.int x2), .val (.int x3), .val (.long x4), .second, .val (.int t1), .val (.int t2), .val (.int t3), .val (.int t4), .val (.int w10), .val (.ref k11), .val (.ref k12), .val (.ref k13), .val (.int pe), .val (.long u), .second, .val (.ref ln), .val (.ref b24), .val (.int (1 : Int32)), .val (.int t1), .val (.int r48), .unset]) rfl ?_
            refine WP.aload (pc' := 366) at_364 rfl rfl rfl ?_
            refine WP.callV (a := b24) (K := "com/example/tallyfold/tallyfold/EntryLines") (argsL := []) (rest := []) (wd := 0) (cl' := 12) (sl' := 4747) (pc' := 369) at_366 rfl (wd70 hw) (wd71 hw) (nfS (wd73 hw) rfl) (wd73 hw) (wd72 hw) (wd8 hw) (wd74 hw) (by decide) R48.2.1.1 (m_first hw b24 h48 n0 bb41 sb41 eb41 ln (((0 + pe) + pe) + pe) lo48 ((((0 + 1) + 1) + 1) - 1) inc47 exs47 4096 ne41 3 (updI (updI (updI (updI (fun _ => 0) (N1 - 1) (0 + pe)) (N2 - 1) ((0 + pe) + pe)) (N3 - 1) (((0 + pe) + pe) + pe)) (N2 - 1) 0) R48 (by omega) (N1 - 1) (N1 - 1) hl48 (by omega) (fun i q1 q2 => by simp only [updI_zero, z1, z2, z3, eq_self, and_true, true_and, and_false, false_and, false_or, or_false, not_true_eq_false, not_false_eq_true] <;> omega) (by simp only [updI_zero, z1, z2, z3, eq_self, and_true, true_and, and_false, false_and, false_or, or_false, not_true_eq_false, not_false_eq_true] <;> omega)) pd_6 rfl rfl rfl (Nat.le_of_eq rfl) (by decide) (by decide) rfl rfl (by decide) (by decide) ?_
            rintro v h49 ⟨r49, lo49, rfl, hr49, hl49, R49⟩
            refine WP.castS (st' := [(.int r49)]) rfl ?_
            refine WP.istore (pc' := 371) at_369 rfl (Ls' := #[.val (.int x0), .val (.int x1), .val (.int x2), .val (.int x3), .val (.long x4), .second, .val (.int t1), .val (.int t2), .val (.int t3), .val (.int t4), .val (.int w10), .val (.ref k11), .val (.ref k12), .val (.ref k13), .val (.int pe), .val (.long u), .second, .val (.ref ln), .val (.ref b24), .val (.int (1 : Int32)), .val (.int t1), .val (.int r48), .val (.int r49)]) rfl ?_
            refine WP.iload (pc' := 373) at_371 rfl rfl ?_
            have hc373 : ¬ (1 : Int32) = (0 : Int32) := by decide
            refine WP.ifc_eq (pc1 := 394) (pc2 := 376) at_373 (by decide) (by decide) rfl (fun k => absurd k hc373) (fun _ => ?_)
            refine WP.iload (pc' := 378) at_376 rfl rfl ?_
            refine WP.iload (pc' := 380) at_378 rfl rfl ?_
            have hc380 : r48 = t1 := Int32.toInt_inj.mp (by rw [hr48, hN1]; omega)
            refine WP.icmp_ne (pc1 := 394) (pc2 := 383) at_380 (by decide) (by decide) rfl (fun k => absurd hc380 k) (fun _ => ?_)
            refine WP.iload (pc' := 385) at_383 rfl rfl ?_
            refine WP.iload (pc' := 387) at_385 rfl rfl ?_
            have hc387 : r49 = t1 := Int32.toInt_inj.mp (by rw [hr49, hN1]; omega)
            refine WP.icmp_ne (pc1 := 394) (pc2 := 390) at_387 (by decide) (by decide) rfl (fun k => absurd hc387 k) (fun _ => ?_)
            refine WP.iconst (pc' := 391) at_390 rfl (z := 1) rfl ?_
            refine WP.goto (pc' := 395) at_391 (by decide) (by decide) ?_
            refine WP.nret (t := .boolean) at_395 rfl (by simp) rfl (by decide) (by decide) rfl
          · intro hc315
            refine WP.aload (pc' := 320) at_318 rfl rfl rfl ?_
            refine WP.iload (pc' := 322) at_320 rfl rfl ?_
            refine WP.aload (pc' := 324) at_322 rfl rfl rfl ?_
            refine WP.lload (pc' := 326) at_324 rfl rfl ?_
            refine WP.callV (a := b24) (K := "com/example/tallyfold/tallyfold/EntryLines") (argsL := [(.int t3), (.ref k13), (.long u)]) (rest := []) (wd := 0) (cl' := 12) (sl' := 4747) (pc' := 329) at_326 rfl (wd65 hw) (wd66 hw) (nfS (wd68 hw) rfl) (wd68 hw) (wd67 hw) (wd8 hw) (wd69 hw) (by decide) R47.2.1.1 (m_rem hw b24 t3 k13 u h47 n0 bb41 sb41 eb41 ln (((0 + pe) + pe) + pe) lo ((((0 + 1) + 1) + 1) - 1) inc47 exs47 4096 ne41 3 (updI (updI (updI (updI (fun _ => 0) (N1 - 1) (0 + pe)) (N2 - 1) ((0 + pe) + pe)) (N3 - 1) (((0 + pe) + pe) + pe)) (N2 - 1) 0) R47 ki S_INC N3 hN3 (by omega) (by omega) (by decide)) pd_7 rfl rfl rfl (Nat.le_of_eq rfl) (by decide) (by decide) rfl rfl (by decide) (by decide) ?_
            rintro v h50 ⟨rfl, inc50, exs50, R50⟩
            refine WP.castS (st' := []) rfl ?_
            refine WP.iload (pc' := 331) at_329 rfl rfl ?_
            refine WP.iconst (pc' := 332) at_331 rfl (z := 1) rfl ?_
            refine WP.iand (pc' := 333) at_332 rfl ?_
            have hc333 : (t4 &&& (1 : Int32)) = (0 : Int32) := hc279
            refine WP.ifc_ne (pc1 := 341) (pc2 := 336) at_333 (by decide) (by decide) rfl (fun k => absurd hc333 k) (fun _ => ?_)
            refine WP.iload (pc' := 338) at_336 rfl rfl ?_
            refine WP.goto (pc' := 355) at_338 (by decide) (by decide) ?_
            refine WP.istore (pc' := 357) at_355 rfl (Ls' := #[.val (.int x0), .val (.int x1), .val (.int x2), .val (.int x3), .val (.long x4), .second, .val (.int t1), .val (.int t2), .val (.int t3), .val (.int t4), .val (.int w10), .val (.ref k11), .val (.ref k12), .val (.ref k13), .val (.int pe), .val (.long u), .second, .val (.ref ln), .val (.ref b24), .val (.int (1 : Int32)), .val (.int t1), .unset, .unset]) rfl ?_
            refine WP.aload (pc' := 359) at_357 rfl rfl rfl ?_
            refine WP.callV (a := b24) (K := "com/example/tallyfold/tallyfold/EntryLines") (argsL := []) (rest := []) (wd := 0) (cl' := 12) (sl' := 4747) (pc' := 362) at_359 rfl (wd70 hw) (wd71 hw) (nfS (wd73 hw) rfl) (wd73 hw) (wd72 hw) (wd8 hw) (wd74 hw) (by decide) R50.2.1.1 (m_first hw b24 h50 n0 bb41 sb41 eb41 ln (((0 + pe) + pe) + pe) lo (((((0 + 1) + 1) + 1) - 1) - 1) inc50 exs50 4096 ne41 3 (updI (updI (updI (updI (updI (fun _ => 0) (N1 - 1) (0 + pe)) (N2 - 1) ((0 + pe) + pe)) (N3 - 1) (((0 + pe) + pe) + pe)) (N2 - 1) 0) (N3 - 1) 0) R50 (by omega) (N1 - 1) Lo hLo (by omega) (fun i q1 q2 => by simp only [updI_zero, z1, z2, z3, eq_self, and_true, true_and, and_false, false_and, false_or, or_false, not_true_eq_false, not_false_eq_true] <;> omega) (by simp only [updI_zero, z1, z2, z3, eq_self, and_true, true_and, and_false, false_and, false_or, or_false, not_true_eq_false, not_false_eq_true] <;> omega)) pd_6 rfl rfl rfl (Nat.le_of_eq rfl) (by decide) (by decide) rfl rfl (by decide) (by decide) ?_
            rintro v h51 ⟨r51, lo51, rfl, hr51, hl51, R51⟩
            refine WP.castS (st' := [(.int r51)]) rfl ?_
            refine WP.istore (pc' := 364) at_362 rfl (Ls' := #[.val (.int x0), .val (.int x1), .val (.int x2), .val (.int x3), .val (.long x4), .second, .val (.int t1), .val (.int t2), .val (.int t3), .val (.int t4), .val (.int w10), .val (.ref k11), .val (.ref k12), .val (.ref k13), .val (.int pe), .val (.long u), .second, .val (.ref ln), .val (.ref b24), .val (.int (1 : Int32)), .val (.int t1), .val (.int r51), .unset]) rfl ?_
            refine WP.aload (pc' := 366) at_364 rfl rfl rfl ?_
            refine WP.callV (a := b24) (K := "com/example/tallyfold/tallyfold/EntryLines") (argsL := []) (rest := []) (wd := 0) (cl' := 12) (sl' := 4747) (pc' := 369) at_366 rfl (wd70 hw) (wd71 hw) (nfS (wd73 hw) rfl) (wd73 hw) (wd72 hw) (wd8 hw) (wd74 hw) (by decide) R51.2.1.1 (m_first hw b24 h51 n0 bb41 sb41 eb41 ln (((0 + pe) + pe) + pe) lo51 (((((0 + 1) + 1) + 1) - 1) - 1) inc50 exs50 4096 ne41 3 (updI (updI (updI (updI (updI (fun _ => 0) (N1 - 1) (0 + pe)) (N2 - 1) ((0 + pe) + pe)) (N3 - 1) (((0 + pe) + pe) + pe)) (N2 - 1) 0) (N3 - 1) 0) R51 (by omega) (N1 - 1) (N1 - 1) hl51 (by omega) (fun i q1 q2 => by simp only [updI_zero, z1, z2, z3, eq_self, and_true, true_and, and_false, false_and, false_or, or_false, not_true_eq_false, not_false_eq_true] <;> omega) (by simp only [updI_zero, z1, z2, z3, eq_self, and_true, true_and, and_false, false_and, false_or, or_false, not_true_eq_false, not_false_eq_true] <;> omega)) pd_6 rfl rfl rfl (Nat.le_of_eq rfl) (by decide) (by decide) rfl rfl (by decide) (by decide) ?_
            rintro v h52 ⟨r52, lo52, rfl, hr52, hl52, R52⟩
            refine WP.castS (st' := [(.int r52)]) rfl ?_
            refine WP.istore (pc' := 371) at_369 rfl (Ls' := #[.val (.int x0), .val (.int x1), .val (.int x2), .val (.int x3), .val (.long x4), .second, .val (.int t1), .val (.int t2), .val (.int t3), .val (.int t4), .val (.int w10), .val (.ref k11), .val (.ref k12), .val (.ref k13), .val (.int pe), .val (.long u), .second, .val (.ref ln), .val (.ref b24), .val (.int (1 : Int32)), .val (.int t1), .val (.int r51), .val (.int r52)]) rfl ?_
            refine WP.iload (pc' := 373) at_371 rfl rfl ?_
            have hc373 : ¬ (1 : Int32) = (0 : Int32) := by decide
            refine WP.ifc_eq (pc1 := 394) (pc2 := 376) at_373 (by decide) (by decide) rfl (fun k => absurd k hc373) (fun _ => ?_)
            refine WP.iload (pc' := 378) at_376 rfl rfl ?_
            refine WP.iload (pc' := 380) at_378 rfl rfl ?_
            have hc380 : r51 = t1 := Int32.toInt_inj.mp (by rw [hr51, hN1]; omega)
            refine WP.icmp_ne (pc1 := 394) (pc2 := 383) at_380 (by decide) (by decide) rfl (fun k => absurd hc380 k) (fun _ => ?_)
            refine WP.iload (pc' := 385) at_383 rfl rfl ?_
            refine WP.iload (pc' := 387) at_385 rfl rfl ?_
            have hc387 : r52 = t1 := Int32.toInt_inj.mp (by rw [hr52, hN1]; omega)
            refine WP.icmp_ne (pc1 := 394) (pc2 := 390) at_387 (by decide) (by decide) rfl (fun k => absurd hc387 k) (fun _ => ?_)
            refine WP.iconst (pc' := 391) at_390 rfl (z := 1) rfl ?_
            refine WP.goto (pc' := 395) at_391 (by decide) (by decide) ?_
            refine WP.nret (t := .boolean) at_395 rfl (by simp) rfl (by decide) (by decide) rfl
      · intro hc279
        refine WP.aload (pc' := 284) at_282 rfl rfl rfl ?_
        refine WP.iload (pc' := 286) at_284 rfl rfl ?_
        refine WP.aload (pc' := 288) at_286 rfl rfl rfl ?_
        refine WP.lload (pc' := 290) at_288 rfl rfl ?_
        refine WP.callV (a := b24) (K := "com/example/tallyfold/tallyfold/EntryLines") (argsL := [(.int t1), (.ref k11), (.long u)]) (rest := []) (wd := 0) (cl' := 12) (sl' := 4747) (pc' := 293) at_290 rfl (wd65 hw) (wd66 hw) (nfS (wd68 hw) rfl) (wd68 hw) (wd67 hw) (wd8 hw) (wd69 hw) (by decide) RR.2.1.1 (m_rem hw b24 t1 k11 u hh n0 bb41 sb41 eb41 ln (((0 + pe) + pe) + pe) lo (((0 + 1) + 1) + 1) inc41 exs41 4096 ne41 3 (updI (updI (updI (fun _ => 0) (N1 - 1) (0 + pe)) (N2 - 1) ((0 + pe) + pe)) (N3 - 1) (((0 + pe) + pe) + pe)) RR ki S_INC N1 hN1 (by omega) (by omega) (by decide)) pd_7 rfl rfl rfl (Nat.le_of_eq rfl) (by decide) (by decide) rfl rfl (by decide) (by decide) ?_
        rintro v h53 ⟨rfl, inc53, exs53, R53⟩
        refine WP.castS (st' := []) rfl ?_
        refine WP.iload (pc' := 295) at_293 rfl rfl ?_
        refine WP.iconst (pc' := 296) at_295 rfl (z := 2) rfl ?_
        refine WP.iand (pc' := 297) at_296 rfl ?_
        refine WP.ifc_eq (pc1 := 311) (pc2 := 300) at_297 (by decide) (by decide) rfl ?_ ?_
        · intro hc297
          refine WP.iload (pc' := 313) at_311 rfl rfl ?_
          refine WP.iconst (pc' := 314) at_313 rfl (z := 4) rfl ?_
          refine WP.iand (pc' := 315) at_314 rfl ?_
          refine WP.ifc_eq (pc1 := 329) (pc2 := 318) at_315 (by decide) (by decide) rfl ?_ ?_
          · intro hc315
            refine WP.iload (pc' := 331) at_329 rfl rfl ?_
            refine WP.iconst (pc' := 332) at_331 rfl (z := 1) rfl ?_
            refine WP.iand (pc' := 333) at_332 rfl ?_
            have hc333 : ¬ (t4 &&& (1 : Int32)) = (0 : Int32) := hc279
            refine WP.ifc_ne (pc1 := 341) (pc2 := 336) at_333 (by decide) (by decide) rfl (fun _ => ?_) (fun k => absurd k hc333)
            refine WP.iload (pc' := 343) at_341 rfl rfl ?_
            refine WP.iconst (pc' := 344) at_343 rfl (z := 2) rfl ?_
            refine WP.iand (pc' := 345) at_344 rfl ?_
            have hc345 : (t4 &&& (2 : Int32)) = (0 : Int32) := hc297
            refine WP.ifc_ne (pc1 := 353) (pc2 := 348) at_345 (by decide) (by decide) rfl (fun k => absurd hc345 k) (fun _ => ?_)
            refine WP.iload (pc' := 350) at_348 rfl rfl ?_
            refine WP.goto (pc' := 355) at_350 (by decide) (by decide) ?_
            refine WP.istore (pc' := 357) at_355 rfl (Ls' := #[.val (.int x0), .val (.int x1), .val (.int x2), .val (.int x3), .val (.long x4), .second, .val (.int t1), .val (.int t2), .val (.int t3), .val (.int t4), .val (.int w10), .val (.ref k11), .val (.ref k12), .val (.ref k13), .val (.int pe), .val (.long u), .second, .val (.ref ln), .val (.ref b24), .val (.int (1 : Int32)), .val (.int t2), .unset, .unset]) rfl ?_
            refine WP.aload (pc' := 359) at_357 rfl rfl rfl ?_
            refine WP.callV (a := b24) (K := "com/example/tallyfold/tallyfold/EntryLines") (argsL := []) (rest := []) (wd := 0) (cl' := 12) (sl' := 4747) (pc' := 362) at_359 rfl (wd70 hw) (wd71 hw) (nfS (wd73 hw) rfl) (wd73 hw) (wd72 hw) (wd8 hw) (wd74 hw) (by decide) R53.2.1.1 (m_first hw b24 h53 n0 bb41 sb41 eb41 ln (((0 + pe) + pe) + pe) lo ((((0 + 1) + 1) + 1) - 1) inc53 exs53 4096 ne41 3 (updI (updI (updI (updI (fun _ => 0) (N1 - 1) (0 + pe)) (N2 - 1) ((0 + pe) + pe)) (N3 - 1) (((0 + pe) + pe) + pe)) (N1 - 1) 0) R53 (by omega) (N2 - 1) Lo hLo (by omega) (fun i q1 q2 => by simp only [updI_zero, z1, z2, z3, eq_self, and_true, true_and, and_false, false_and, false_or, or_false, not_true_eq_false, not_false_eq_true] <;> omega) (by simp only [updI_zero, z1, z2, z3, eq_self, and_true, true_and, and_false, false_and, false_or, or_false, not_true_eq_false, not_false_eq_true] <;> omega)) pd_6 rfl rfl rfl (Nat.le_of_eq rfl) (by decide) (by decide) rfl rfl (by decide) (by decide) ?_
            rintro v h54 ⟨r54, lo54, rfl, hr54, hl54, R54⟩
            refine WP.castS (st' := [(.int r54)]) rfl ?_
            refine WP.istore (pc' := 364) at_362 rfl (Ls' := #[.val (.int x0), .val (.int x1), .val (.int x2), .val (.int x3), .val (.long x4), .second, .val (.int t1), .val (.int t2), .val (.int t3), .val (.int t4), .val (.int w10), .val (.ref k11), .val (.ref k12), .val (.ref k13), .val (.int pe), .val (.long u), .second, .val (.ref ln), .val (.ref b24), .val (.int (1 : Int32)), .val (.int t2), .val (.int r54), .unset]) rfl ?_
            refine WP.aload (pc' := 366) at_364 rfl rfl rfl ?_
            refine WP.callV (a := b24) (K := "com/example/tallyfold/tallyfold/EntryLines") (argsL := []) (rest := []) (wd := 0) (cl' := 12) (sl' := 4747) (pc' := 369) at_366 rfl (wd70 hw) (wd71 hw) (nfS (wd73 hw) rfl) (wd73 hw) (wd72 hw) (wd8 hw) (wd74 hw) (by decide) R54.2.1.1 (m_first hw b24 h54 n0 bb41 sb41 eb41 ln (((0 + pe) + pe) + pe) lo54 ((((0 + 1) + 1) + 1) - 1) inc53 exs53 4096 ne41 3 (updI (updI (updI (updI (fun _ => 0) (N1 - 1) (0 + pe)) (N2 - 1) ((0 + pe) + pe)) (N3 - 1) (((0 + pe) + pe) + pe)) (N1 - 1) 0) R54 (by omega) (N2 - 1) (N2 - 1) hl54 (by omega) (fun i q1 q2 => by simp only [updI_zero, z1, z2, z3, eq_self, and_true, true_and, and_false, false_and, false_or, or_false, not_true_eq_false, not_false_eq_true] <;> omega) (by simp only [updI_zero, z1, z2, z3, eq_self, and_true, true_and, and_false, false_and, false_or, or_false, not_true_eq_false, not_false_eq_true] <;> omega)) pd_6 rfl rfl rfl (Nat.le_of_eq rfl) (by decide) (by decide) rfl rfl (by decide) (by decide) ?_
            rintro v h55 ⟨r55, lo55, rfl, hr55, hl55, R55⟩
            refine WP.castS (st' := [(.int r55)]) rfl ?_
            refine WP.istore (pc' := 371) at_369 rfl (Ls' := #[.val (.int x0), .val (.int x1), .val (.int x2), .val (.int x3), .val (.long x4), .second, .val (.int t1), .val (.int t2), .val (.int t3), .val (.int t4), .val (.int w10), .val (.ref k11), .val (.ref k12), .val (.ref k13), .val (.int pe), .val (.long u), .second, .val (.ref ln), .val (.ref b24), .val (.int (1 : Int32)), .val (.int t2), .val (.int r54), .val (.int r55)]) rfl ?_
            refine WP.iload (pc' := 373) at_371 rfl rfl ?_
            have hc373 : ¬ (1 : Int32) = (0 : Int32) := by decide
            refine WP.ifc_eq (pc1 := 394) (pc2 := 376) at_373 (by decide) (by decide) rfl (fun k => absurd k hc373) (fun _ => ?_)
            refine WP.iload (pc' := 378) at_376 rfl rfl ?_
            refine WP.iload (pc' := 380) at_378 rfl rfl ?_
            have hc380 : r54 = t2 := Int32.toInt_inj.mp (by rw [hr54, hN2]; omega)
            refine WP.icmp_ne (pc1 := 394) (pc2 := 383) at_380 (by decide) (by decide) rfl (fun k => absurd hc380 k) (fun _ => ?_)
            refine WP.iload (pc' := 385) at_383 rfl rfl ?_
            refine WP.iload (pc' := 387) at_385 rfl rfl ?_
            have hc387 : r55 = t2 := Int32.toInt_inj.mp (by rw [hr55, hN2]; omega)
            refine WP.icmp_ne (pc1 := 394) (pc2 := 390) at_387 (by decide) (by decide) rfl (fun k => absurd hc387 k) (fun _ => ?_)
            refine WP.iconst (pc' := 391) at_390 rfl (z := 1) rfl ?_
            refine WP.goto (pc' := 395) at_391 (by decide) (by decide) ?_
            refine WP.nret (t := .boolean) at_395 rfl (by simp) rfl (by decide) (by decide) rfl
          · intro hc315
            refine WP.aload (pc' := 320) at_318 rfl rfl rfl ?_
            refine WP.iload (pc' := 322) at_320 rfl rfl ?_
            refine WP.aload (pc' := 324) at_322 rfl rfl rfl ?_
            refine WP.lload (pc' := 326) at_324 rfl rfl ?_
            refine WP.callV (a := b24) (K := "com/example/tallyfold/tallyfold/EntryLines") (argsL := [(.int t3), (.ref k13), (.long u)]) (rest := []) (wd := 0) (cl' := 12) (sl' := 4747) (pc' := 329) at_326 rfl (wd65 hw) (wd66 hw) (nfS (wd68 hw) rfl) (wd68 hw) (wd67 hw) (wd8 hw) (wd69 hw) (by decide) R53.2.1.1 (m_rem hw b24 t3 k13 u h53 n0 bb41 sb41 eb41 ln (((0 + pe) + pe) + pe) lo ((((0 + 1) + 1) + 1) - 1) inc53 exs53 4096 ne41 3 (updI (updI (updI (updI (fun _ => 0) (N1 - 1) (0 + pe)) (N2 - 1) ((0 + pe) + pe)) (N3 - 1) (((0 + pe) + pe) + pe)) (N1 - 1) 0) R53 ki S_INC N3 hN3 (by omega) (by omega) (by decide)) pd_7 rfl rfl rfl (Nat.le_of_eq rfl) (by decide) (by decide) rfl rfl (by decide) (by decide) ?_
            rintro v h56 ⟨rfl, inc56, exs56, R56⟩
            refine WP.castS (st' := []) rfl ?_
            refine WP.iload (pc' := 331) at_329 rfl rfl ?_
            refine WP.iconst (pc' := 332) at_331 rfl (z := 1) rfl ?_
            refine WP.iand (pc' := 333) at_332 rfl ?_
            have hc333 : ¬ (t4 &&& (1 : Int32)) = (0 : Int32) := hc279
            refine WP.ifc_ne (pc1 := 341) (pc2 := 336) at_333 (by decide) (by decide) rfl (fun _ => ?_) (fun k => absurd k hc333)
            refine WP.iload (pc' := 343) at_341 rfl rfl ?_
            refine WP.iconst (pc' := 344) at_343 rfl (z := 2) rfl ?_
            refine WP.iand (pc' := 345) at_344 rfl ?_
            have hc345 : (t4 &&& (2 : Int32)) = (0 : Int32) := hc297
            refine WP.ifc_ne (pc1 := 353) (pc2 := 348) at_345 (by decide) (by decide) rfl (fun k => absurd hc345 k) (fun _ => ?_)
            refine WP.iload (pc' := 350) at_348 rfl rfl ?_
            refine WP.goto (pc' := 355) at_350 (by decide) (by decide) ?_
            refine WP.istore (pc' := 357) at_355 rfl (Ls' := #[.val (.int x0), .val (.int x1), .val (.int x2), .val (.int x3), .val (.long x4), .second, .val (.int t1), .val (.int t2), .val (.int t3), .val (.int t4), .val (.int w10), .val (.ref k11), .val (.ref k12), .val (.ref k13), .val (.int pe), .val (.long u), .second, .val (.ref ln), .val (.ref b24), .val (.int (1 : Int32)), .val (.int t2), .unset, .unset]) rfl ?_
            refine WP.aload (pc' := 359) at_357 rfl rfl rfl ?_
            refine WP.callV (a := b24) (K := "com/example/tallyfold/tallyfold/EntryLines") (argsL := []) (rest := []) (wd := 0) (cl' := 12) (sl' := 4747) (pc' := 362) at_359 rfl (wd70 hw) (wd71 hw) (nfS (wd73 hw) rfl) (wd73 hw) (wd72 hw) (wd8 hw) (wd74 hw) (by decide) R56.2.1.1 (m_first hw b24 h56 n0 bb41 sb41 eb41 ln (((0 + pe) + pe) + pe) lo (((((0 + 1) + 1) + 1) - 1) - 1) inc56 exs56 4096 ne41 3 (updI (updI (updI (updI (updI (fun _ => 0) (N1 - 1) (0 + pe)) (N2 - 1) ((0 + pe) + pe)) (N3 - 1) (((0 + pe) + pe) + pe)) (N1 - 1) 0) (N3 - 1) 0) R56 (by omega) (N2 - 1) Lo hLo (by omega) (fun i q1 q2 => by simp only [updI_zero, z1, z2, z3, eq_self, and_true, true_and, and_false, false_and, false_or, or_false, not_true_eq_false, not_false_eq_true] <;> omega) (by simp only [updI_zero, z1, z2, z3, eq_self, and_true, true_and, and_false, false_and, false_or, or_false, not_true_eq_false, not_false_eq_true] <;> omega)) pd_6 rfl rfl rfl (Nat.le_of_eq rfl) (by decide) (by decide) rfl rfl (by decide) (by decide) ?_
            rintro v h57 ⟨r57, lo57, rfl, hr57, hl57, R57⟩
            refine WP.castS (st' := [(.int r57)]) rfl ?_
            refine WP.istore (pc' := 364) at_362 rfl (Ls' := #[.val (.int x0), .val (.int x1), .val (.int x2), .val (.int x3), .val (.long x4), .second, .val (.int t1), .val (.int t2), .val (.int t3), .val (.int t4), .val (.int w10), .val (.ref k11), .val (.ref k12), .val (.ref k13), .val (.int pe), .val (.long u), .second, .val (.ref ln), .val (.ref b24), .val (.int (1 : Int32)), .val (.int t2), .val (.int r57), .unset]) rfl ?_
            refine WP.aload (pc' := 366) at_364 rfl rfl rfl ?_
            refine WP.callV (a := b24) (K := "com/example/tallyfold/tallyfold/EntryLines") (argsL := []) (rest := []) (wd := 0) (cl' := 12) (sl' := 4747) (pc' := 369) at_366 rfl (wd70 hw) (wd71 hw) (nfS (wd73 hw) rfl) (wd73 hw) (wd72 hw) (wd8 hw) (wd74 hw) (by decide) R57.2.1.1 (m_first hw b24 h57 n0 bb41 sb41 eb41 ln (((0 + pe) + pe) + pe) lo57 (((((0 + 1) + 1) + 1) - 1) - 1) inc56 exs56 4096 ne41 3 (updI (updI (updI (updI (updI (fun _ => 0) (N1 - 1) (0 + pe)) (N2 - 1) ((0 + pe) + pe)) (N3 - 1) (((0 + pe) + pe) + pe)) (N1 - 1) 0) (N3 - 1) 0) R57 (by omega) (N2 - 1) (N2 - 1) hl57 (by omega) (fun i q1 q2 => by simp only [updI_zero, z1, z2, z3, eq_self, and_true, true_and, and_false, false_and, false_or, or_false, not_true_eq_false, not_false_eq_true] <;> omega) (by simp only [updI_zero, z1, z2, z3, eq_self, and_true, true_and, and_false, false_and, false_or, or_false, not_true_eq_false, not_false_eq_true] <;> omega)) pd_6 rfl rfl rfl (Nat.le_of_eq rfl) (by decide) (by decide) rfl rfl (by decide) (by decide) ?_
            rintro v h58 ⟨r58, lo58, rfl, hr58, hl58, R58⟩
            refine WP.castS (st' := [(.int r58)]) rfl ?_
            refine WP.istore (pc' := 371) at_369 rfl (Ls' := #[.val (.int x0), .val (.int x1), .val (.int x2), .val (.int x3), .val (.long x4), .second, .val (.int t1), .val (.int t2), .val (.int t3), .val (.int t4), .val (.int w10), .val (.ref k11), .val (.ref k12), .val (.ref k13), .val (.int pe), .val (.long u), .second, .val (.ref ln), .val (.ref b24), .val (.int (1 : Int32)), .val (.int t2), .val (.int r57), .val (.int r58)]) rfl ?_
            refine WP.iload (pc' := 373) at_371 rfl rfl ?_
            have hc373 : ¬ (1 : Int32) = (0 : Int32) := by decide
            refine WP.ifc_eq (pc1 := 394) (pc2 := 376) at_373 (by decide) (by decide) rfl (fun k => absurd k hc373) (fun _ => ?_)
            refine WP.iload (pc' := 378) at_376 rfl rfl ?_
            refine WP.iload (pc' := 380) at_378 rfl rfl ?_
            have hc380 : r57 = t2 := Int32.toInt_inj.mp (by rw [hr57, hN2]; omega)
            refine WP.icmp_ne (pc1 := 394) (pc2 := 383) at_380 (by decide) (by decide) rfl (fun k => absurd hc380 k) (fun _ => ?_)
            refine WP.iload (pc' := 385) at_383 rfl rfl ?_
            refine WP.iload (pc' := 387) at_385 rfl rfl ?_
            have hc387 : r58 = t2 := Int32.toInt_inj.mp (by rw [hr58, hN2]; omega)
            refine WP.icmp_ne (pc1 := 394) (pc2 := 390) at_387 (by decide) (by decide) rfl (fun k => absurd hc387 k) (fun _ => ?_)
            refine WP.iconst (pc' := 391) at_390 rfl (z := 1) rfl ?_
            refine WP.goto (pc' := 395) at_391 (by decide) (by decide) ?_
            refine WP.nret (t := .boolean) at_395 rfl (by simp) rfl (by decide) (by decide) rfl
        · intro hc297
          refine WP.aload (pc' := 302) at_300 rfl rfl rfl ?_
          refine WP.iload (pc' := 304) at_302 rfl rfl ?_
          refine WP.aload (pc' := 306) at_304 rfl rfl rfl ?_
          refine WP.lload (pc' := 308) at_306 rfl rfl ?_
          refine WP.callV (a := b24) (K := "com/example/tallyfold/tallyfold/EntryLines") (argsL := [(.int t2), (.ref k12), (.long u)]) (rest := []) (wd := 0) (cl' := 12) (sl' := 4747) (pc' := 311) at_308 rfl (wd65 hw) (wd66 hw) (nfS (wd68 hw) rfl) (wd68 hw) (wd67 hw) (wd8 hw) (wd69 hw) (by decide) R53.2.1.1 (m_rem hw b24 t2 k12 u h53 n0 bb41 sb41 eb41 ln (((0 + pe) + pe) + pe) lo ((((0 + 1) + 1) + 1) - 1) inc53 exs53 4096 ne41 3 (updI (updI (updI (updI (fun _ => 0) (N1 - 1) (0 + pe)) (N2 - 1) ((0 + pe) + pe)) (N3 - 1) (((0 + pe) + pe) + pe)) (N1 - 1) 0) R53 ki S_INC N2 hN2 (by omega) (by omega) (by decide)) pd_7 rfl rfl rfl (Nat.le_of_eq rfl) (by decide) (by decide) rfl rfl (by decide) (by decide) ?_
          rintro v h59 ⟨rfl, inc59, exs59, R59⟩
          refine WP.castS (st' := []) rfl ?_
          refine WP.iload (pc' := 313) at_311 rfl rfl ?_
          refine WP.iconst (pc' := 314) at_313 rfl (z := 4) rfl ?_
          refine WP.iand (pc' := 315) at_314 rfl ?_
          refine WP.ifc_eq (pc1 := 329) (pc2 := 318) at_315 (by decide) (by decide) rfl ?_ ?_
          · intro hc315
            refine WP.iload (pc' := 331) at_329 rfl rfl ?_
            refine WP.iconst (pc' := 332) at_331 rfl (z := 1) rfl ?_
            refine WP.iand (pc' := 333) at_332 rfl ?_
            have hc333 : ¬ (t4 &&& (1 : Int32)) = (0 : Int32) := hc279
            refine WP.ifc_ne (pc1 := 341) (pc2 := 336) at_333 (by decide) (by decide) rfl (fun _ => ?_) (fun k => absurd k hc333)
            refine WP.iload (pc' := 343) at_341 rfl rfl ?_
            refine WP.iconst (pc' := 344) at_343 rfl (z := 2) rfl ?_
            refine WP.iand (pc' := 345) at_344 rfl ?_
            have hc345 : ¬ (t4 &&& (2 : Int32)) = (0 : Int32) := hc297
            refine WP.ifc_ne (pc1 := 353) (pc2 := 348) at_345 (by decide) (by decide) rfl (fun _ => ?_) (fun k => absurd k hc345)
            refine WP.iload (pc' := 355) at_353 rfl rfl ?_
            refine WP.istore (pc' := 357) at_355 rfl (Ls' := #[.val (.int x0), .val (.int x1), .val (.int x2), .val (.int x3), .val (.long x4), .second, .val (.int t1), .val (.int t2), .val (.int t3), .val (.int t4), .val (.int w10), .val (.ref k11), .val (.ref k12), .val (.ref k13), .val (.int pe), .val (.long u), .second, .val (.ref ln), .val (.ref b24), .val (.int (1 : Int32)), .val (.int t3), .unset, .unset]) rfl ?_
            refine WP.aload (pc' := 359) at_357 rfl rfl rfl ?_
            refine WP.callV (a := b24) (K := "com/example/tallyfold/tallyfold/EntryLines") (argsL := []) (rest := []) (wd := 0) (cl' := 12) (sl' := 4747) (pc' := 362) at_359 rfl (wd70 hw) (wd71 hw) (nfS (wd73 hw) rfl) (wd73 hw) (wd72 hw) (wd8 hw) (wd74 hw) (by decide) R59.2.1.1 (m_first hw b24 h59 n0 bb41 sb41 eb41 ln (((0 + pe) + pe) + pe) lo (((((0 + 1) + 1) + 1) - 1) - 1) inc59 exs59 4096 ne41 3 (updI (updI (updI (updI (updI (fun _ => 0) (N1 - 1) (0 + pe)) (N2 - 1) ((0 + pe) + pe)) (N3 - 1) (((0 + pe) + pe) + pe)) (N1 - 1) 0) (N2 - 1) 0) R59 (by omega) (N3 - 1) Lo hLo (by omega) (fun i q1 q2 => by simp only [updI_zero, z1, z2, z3, eq_self, and_true, true_and, and_false, false_and, false_or, or_false, not_true_eq_false, not_false_eq_true] <;> omega) (by simp only [updI_zero, z1, z2, z3, eq_self, and_true, true_and, and_false, false_and, false_or, or_false, not_true_eq_false, not_false_eq_true] <;> omega)) pd_6 rfl rfl rfl (Nat.le_of_eq rfl) (by decide) (by decide) rfl rfl (by decide) (by decide) ?_
            rintro v h60 ⟨r60, lo60, rfl, hr60, hl60, R60⟩
            refine WP.castS (st' := [(.int r60)]) rfl ?_
            refine WP.istore (pc' := 364) at_362 rfl (Ls' := #[.val (.int x0), .val (.int x1), .val (.int x2), .val (.int x3), .val (.long x4), .second, .val (.int t1), .val (.int t2), .val (.int t3), .val (.int t4), .val (.int w10), .val (.ref k11), .val (.ref k12), .val (.ref k13), .val (.int pe), .val (.long u), .second, .val (.ref ln), .val (.ref b24), .val (.int (1 : Int32)), .val (.int t3), .val (.int r60), .unset]) rfl ?_
            refine WP.aload (pc' := 366) at_364 rfl rfl rfl ?_
            refine WP.callV (a := b24) (K := "com/example/tallyfold/tallyfold/EntryLines") (argsL := []) (rest := []) (wd := 0) (cl' := 12) (sl' := 4747) (pc' := 369) at_366 rfl (wd70 hw) (wd71 hw) (nfS (wd73 hw) rfl) (wd73 hw) (wd72 hw) (wd8 hw) (wd74 hw) (by decide) R60.2.1.1 (m_first hw b24 h60 n0 bb41 sb41 eb41 ln (((0 + pe) + pe) + pe) lo60 (((((0 + 1) + 1) + 1) - 1) - 1) inc59 exs59 4096 ne41 3 (updI (updI (updI (updI (updI (fun _ => 0) (N1 - 1) (0 + pe)) (N2 - 1) ((0 + pe) + pe)) (N3 - 1) (((0 + pe) + pe) + pe)) (N1 - 1) 0) (N2 - 1) 0) R60 (by omega) (N3 - 1) (N3 - 1) hl60 (by omega) (fun i q1 q2 => by simp only [updI_zero, z1, z2, z3, eq_self, and_true, true_and, and_false, false_and, false_or, or_false, not_true_eq_false, not_false_eq_true] <;> omega) (by simp only [updI_zero, z1, z2, z3, eq_self, and_true, true_and, and_false, false_and, false_or, or_false, not_true_eq_false, not_false_eq_true] <;> omega)) pd_6 rfl rfl rfl (Nat.le_of_eq rfl) (by decide) (by decide) rfl rfl (by decide) (by decide) ?_
            rintro v h61 ⟨r61, lo61, rfl, hr61, hl61, R61⟩
            refine WP.castS (st' := [(.int r61)]) rfl ?_
            refine WP.istore (pc' := 371) at_369 rfl (Ls' := #[.val (.int x0), .val (.int x1), .val (.int x2), .val (.int x3), .val (.long x4), .second, .val (.int t1), .val (.int t2), .val (.int t3), .val (.int t4), .val (.int w10), .val (.ref k11), .val (.ref k12), .val (.ref k13), .val (.int pe), .val (.long u), .second, .val (.ref ln), .val (.ref b24), .val (.int (1 : Int32)), .val (.int t3), .val (.int r60), .val (.int r61)]) rfl ?_
            refine WP.iload (pc' := 373) at_371 rfl rfl ?_
            have hc373 : ¬ (1 : Int32) = (0 : Int32) := by decide
            refine WP.ifc_eq (pc1 := 394) (pc2 := 376) at_373 (by decide) (by decide) rfl (fun k => absurd k hc373) (fun _ => ?_)
            refine WP.iload (pc' := 378) at_376 rfl rfl ?_
            refine WP.iload (pc' := 380) at_378 rfl rfl ?_
            have hc380 : r60 = t3 := Int32.toInt_inj.mp (by rw [hr60, hN3]; omega)
            refine WP.icmp_ne (pc1 := 394) (pc2 := 383) at_380 (by decide) (by decide) rfl (fun k => absurd hc380 k) (fun _ => ?_)
            refine WP.iload (pc' := 385) at_383 rfl rfl ?_
            refine WP.iload (pc' := 387) at_385 rfl rfl ?_
            have hc387 : r61 = t3 := Int32.toInt_inj.mp (by rw [hr61, hN3]; omega)
            refine WP.icmp_ne (pc1 := 394) (pc2 := 390) at_387 (by decide) (by decide) rfl (fun k => absurd hc387 k) (fun _ => ?_)
            refine WP.iconst (pc' := 391) at_390 rfl (z := 1) rfl ?_
            refine WP.goto (pc' := 395) at_391 (by decide) (by decide) ?_
            refine WP.nret (t := .boolean) at_395 rfl (by simp) rfl (by decide) (by decide) rfl
          · intro hc315
            exact (not7 v9 hc279 hc297 hc315).elim
    refine WP.iload (pc' := 250) at_248 rfl rfl ?_
    refine WP.ifc_eq (pc1 := 275) (pc2 := 253) at_250 (by decide) (by decide) rfl ?_ ?_
    · intro hc250
      exact L275 _ _ 0 rfl (by omega) R41
    · intro hc250
      refine WP.aload (pc' := 255) at_253 rfl rfl rfl ?_
      refine WP.callV (a := b24) (K := "com/example/tallyfold/tallyfold/EntryLines") (argsL := []) (rest := []) (wd := 0) (cl' := 12) (sl' := 4747) (pc' := 258) at_255 rfl (wd70 hw) (wd71 hw) (nfS (wd73 hw) rfl) (wd73 hw) (wd72 hw) (wd8 hw) (wd74 hw) (by decide) R41.2.1.1 (m_first hw b24 h41 n0 bb41 sb41 eb41 ln (((0 + pe) + pe) + pe) 0 (((0 + 1) + 1) + 1) inc41 exs41 4096 ne41 3 (updI (updI (updI (fun _ => 0) (N1 - 1) (0 + pe)) (N2 - 1) ((0 + pe) + pe)) (N3 - 1) (((0 + pe) + pe) + pe)) R41 (by omega) (N1 - 1) 0 rfl (by omega) (fun i q1 q2 => by simp only [updI_zero, z1, z2, z3, eq_self, and_true, true_and, and_false, false_and, false_or, or_false, not_true_eq_false, not_false_eq_true] <;> omega) (by simp only [updI_zero, z1, z2, z3, eq_self, and_true, true_and, and_false, false_and, false_or, or_false, not_true_eq_false, not_false_eq_true] <;> omega)) pd_6 rfl rfl rfl (Nat.le_of_eq rfl) (by decide) (by decide) rfl rfl (by decide) (by decide) ?_
      rintro v h62 ⟨r62, lo62, rfl, hr62, hl62, R62⟩
      refine WP.castS (st' := [(.int r62)]) rfl ?_
      refine WP.iload (pc' := 260) at_258 rfl rfl ?_
      have hc260 : r62 = t1 := Int32.toInt_inj.mp (by rw [hr62, hN1]; omega)
      refine WP.icmp_ne (pc1 := 272) (pc2 := 263) at_260 (by decide) (by decide) rfl (fun k => absurd hc260 k) (fun _ => ?_)
      refine WP.iload (pc' := 265) at_263 rfl rfl ?_
      have hc265 : ¬ (1 : Int32) = (0 : Int32) := by decide
      refine WP.ifc_eq (pc1 := 272) (pc2 := 268) at_265 (by decide) (by decide) rfl (fun k => absurd k hc265) (fun _ => ?_)
      refine WP.iconst (pc' := 269) at_268 rfl (z := 1) rfl ?_
      refine WP.goto (pc' := 273) at_269 (by decide) (by decide) ?_
      refine WP.istore (pc' := 275) at_273 rfl (Ls' := #[.val (.int x0), .val (.int x1), .val (.int x2), .val (.int x3), .val (.long x4), .second, .val (.int t1), .val (.int t2), .val (.int t3), .val (.int t4), .val (.int w10), .val (.ref k11), .val (.ref k12), .val (.ref k13), .val (.int pe), .val (.long u), .second, .val (.ref ln), .val (.ref b24), .val (.int (1 : Int32)), .unset, .unset, .unset]) rfl ?_
      exact L275 _ _ (N1 - 1) hl62 (by omega) R62
  refine WP.iloadN (pc' := 40) at_39 rfl rfl ?_
  refine WP.iconst (pc' := 41) at_40 rfl (z := 3) rfl ?_
  refine WP.iushr (pc' := 42) at_41 rfl ?_
  refine WP.iconst (pc' := 43) at_42 rfl (z := 1) rfl ?_
  refine WP.iand (pc' := 44) at_43 rfl ?_
  refine WP.ifc_eq (pc1 := 51) (pc2 := 47) at_44 (by decide) (by decide) rfl ?_ ?_
  · intro hc44
    refine WP.iconst (pc' := 52) at_51 rfl (z := 0) rfl ?_
    refine WP.istore (pc' := 54) at_52 rfl (Ls' := #[.val (.int x0), .val (.int x1), .val (.int x2), .val (.int x3), .val (.long x4), .second, .val (.int t1), .val (.int t2), .val (.int t3), .val (.int t4), .val (.int (0 : Int32)), .unset, .unset, .unset, .unset, .unset, .unset, .unset, .unset, .unset, .unset, .unset, .unset]) rfl ?_
    refine WP.iloadN (pc' := 55) at_54 rfl rfl ?_
    refine WP.iconst (pc' := 56) at_55 rfl (z := 4) rfl ?_
    refine WP.iushr (pc' := 57) at_56 rfl ?_
    refine WP.iconst (pc' := 58) at_57 rfl (z := 1) rfl ?_
    refine WP.iand (pc' := 59) at_58 rfl ?_
    refine WP.ifc_eq (pc1 := 68) (pc2 := 62) at_59 (by decide) (by decide) rfl ?_ ?_
    · intro hc59
      refine WP.getS (pc' := 71) at_68 rfl (host := "") (Or.inl (wd1 hw)) Via.refl (S_EXP.ext O0.2) ?_
      refine WP.astore (pc' := 73) at_71 rfl rfl (Ls' := #[.val (.int x0), .val (.int x1), .val (.int x2), .val (.int x3), .val (.long x4), .second, .val (.int t1), .val (.int t2), .val (.int t3), .val (.int t4), .val (.int (0 : Int32)), .val (.ref ke), .unset, .unset, .unset, .unset, .unset, .unset, .unset, .unset, .unset, .unset, .unset]) rfl ?_
      refine WP.iloadN (pc' := 74) at_73 rfl rfl ?_
      refine WP.iconst (pc' := 75) at_74 rfl (z := 5) rfl ?_
      refine WP.iushr (pc' := 76) at_75 rfl ?_
      refine WP.iconst (pc' := 77) at_76 rfl (z := 1) rfl ?_
      refine WP.iand (pc' := 78) at_77 rfl ?_
      refine WP.ifc_eq (pc1 := 87) (pc2 := 81) at_78 (by decide) (by decide) rfl ?_ ?_
      · intro hc78
        refine WP.getS (pc' := 90) at_87 rfl (host := "") (Or.inl (wd1 hw)) Via.refl (S_EXP.ext O0.2) ?_
        refine WP.astore (pc' := 92) at_90 rfl rfl (Ls' := #[.val (.int x0), .val (.int x1), .val (.int x2), .val (.int x3), .val (.long x4), .second, .val (.int t1), .val (.int t2), .val (.int t3), .val (.int t4), .val (.int (0 : Int32)), .val (.ref ke), .val (.ref ke), .unset, .unset, .unset, .unset, .unset, .unset, .unset, .unset, .unset, .unset]) rfl ?_
        refine WP.iloadN (pc' := 93) at_92 rfl rfl ?_
        refine WP.bipush (pc' := 95) at_93 rfl (z := 6) rfl ?_
        refine WP.iushr (pc' := 96) at_95 rfl ?_
        refine WP.iconst (pc' := 97) at_96 rfl (z := 1) rfl ?_
        refine WP.iand (pc' := 98) at_97 rfl ?_
        refine WP.ifc_eq (pc1 := 107) (pc2 := 101) at_98 (by decide) (by decide) rfl ?_ ?_
        · intro hc98
          refine WP.getS (pc' := 110) at_107 rfl (host := "") (Or.inl (wd1 hw)) Via.refl (S_EXP.ext O0.2) ?_
          refine WP.astore (pc' := 112) at_110 rfl rfl (Ls' := #[.val (.int x0), .val (.int x1), .val (.int x2), .val (.int x3), .val (.long x4), .second, .val (.int t1), .val (.int t2), .val (.int t3), .val (.int t4), .val (.int (0 : Int32)), .val (.ref ke), .val (.ref ke), .val (.ref ke), .unset, .unset, .unset, .unset, .unset, .unset, .unset, .unset, .unset]) rfl ?_
          refine WP.iconst (pc' := 113) at_112 rfl (z := 1) rfl ?_
          refine WP.iloadN (pc' := 114) at_113 rfl rfl ?_
          refine WP.bipush (pc' := 116) at_114 rfl (z := 7) rfl ?_
          refine WP.iushr (pc' := 117) at_116 rfl ?_
          refine WP.iconst (pc' := 118) at_117 rfl (z := 1) rfl ?_
          refine WP.iand (pc' := 119) at_118 rfl ?_
          refine WP.iadd (pc' := 120) at_119 rfl ?_
          refine WP.iloadN (pc' := 121) at_120 rfl rfl ?_
          refine WP.bipush (pc' := 123) at_121 rfl (z := 8) rfl ?_
          refine WP.iushr (pc' := 124) at_123 rfl ?_
          refine WP.iconst (pc' := 125) at_124 rfl (z := 1) rfl ?_
          refine WP.iand (pc' := 126) at_125 rfl ?_
          refine WP.iadd (pc' := 127) at_126 rfl ?_
          generalize ht63 : (((1 : Int32) + (((x3.toUInt32 >>> ((7 : Int32) &&& 31).toUInt32).toInt32) &&& (1 : Int32))) + (((x3.toUInt32 >>> ((8 : Int32) &&& 31).toUInt32).toInt32) &&& (1 : Int32))) = t63
          refine WP.istore (pc' := 129) at_127 rfl (Ls' := #[.val (.int x0), .val (.int x1), .val (.int x2), .val (.int x3), .val (.long x4), .second, .val (.int t1), .val (.int t2), .val (.int t3), .val (.int t4), .val (.int (0 : Int32)), .val (.ref ke), .val (.ref ke), .val (.ref ke), .val (.int t63), .unset, .unset, .unset, .unset, .unset, .unset, .unset, .unset]) rfl ?_
          refine WP.lload (pc' := 131) at_129 rfl rfl ?_
          refine WP.ldc2J (pc' := 134) at_131 rfl (wd4 hw) ?_
          refine WP.land (pc' := 135) at_134 rfl ?_
          refine WP.lconst (pc' := 136) at_135 rfl (z := 1) rfl ?_
          refine WP.ladd (pc' := 137) at_136 rfl ?_
          generalize ht64 : ((x4 &&& (4294967295 : Int64)) + (1 : Int64)) = t64
          refine WP.lstore (pc' := 139) at_137 rfl (Ls' := #[.val (.int x0), .val (.int x1), .val (.int x2), .val (.int x3), .val (.long x4), .second, .val (.int t1), .val (.int t2), .val (.int t3), .val (.int t4), .val (.int (0 : Int32)), .val (.ref ke), .val (.ref ke), .val (.ref ke), .val (.int t63), .val (.long t64), .second, .unset, .unset, .unset, .unset, .unset, .unset]) rfl ?_
          exact L139 _ _ _ _ _ _ (by rw [← ht63]; exact endv _ _) (by rw [← ht64]; exact unv _)
        · intro hc98
          refine WP.getS (pc' := 104) at_101 rfl (host := "") (Or.inl (wd77 hw)) Via.refl (S_INC.ext O0.2) ?_
          refine WP.goto (pc' := 110) at_104 (by decide) (by decide) ?_
          refine WP.astore (pc' := 112) at_110 rfl rfl (Ls' := #[.val (.int x0), .val (.int x1), .val (.int x2), .val (.int x3), .val (.long x4), .second, .val (.int t1), .val (.int t2), .val (.int t3), .val (.int t4), .val (.int (0 : Int32)), .val (.ref ke), .val (.ref ke), .val (.ref ki), .unset, .unset, .unset, .unset, .unset, .unset, .unset, .unset, .unset]) rfl ?_
          refine WP.iconst (pc' := 113) at_112 rfl (z := 1) rfl ?_
          refine WP.iloadN (pc' := 114) at_113 rfl rfl ?_
          refine WP.bipush (pc' := 116) at_114 rfl (z := 7) rfl ?_
          refine WP.iushr (pc' := 117) at_116 rfl ?_
          refine WP.iconst (pc' := 118) at_117 rfl (z := 1) rfl ?_
          refine WP.iand (pc' := 119) at_118 rfl ?_
          refine WP.iadd (pc' := 120) at_119 rfl ?_
          refine WP.iloadN (pc' := 121) at_120 rfl rfl ?_
          refine WP.bipush (pc' := 123) at_121 rfl (z := 8) rfl ?_
          refine WP.iushr (pc' := 124) at_123 rfl ?_
          refine WP.iconst (pc' := 125) at_124 rfl (z := 1) rfl ?_
          refine WP.iand (pc' := 126) at_125 rfl ?_
          refine WP.iadd (pc' := 127) at_126 rfl ?_
          generalize ht65 : (((1 : Int32) + (((x3.toUInt32 >>> ((7 : Int32) &&& 31).toUInt32).toInt32) &&& (1 : Int32))) + (((x3.toUInt32 >>> ((8 : Int32) &&& 31).toUInt32).toInt32) &&& (1 : Int32))) = t65
          refine WP.istore (pc' := 129) at_127 rfl (Ls' := #[.val (.int x0), .val (.int x1), .val (.int x2), .val (.int x3), .val (.long x4), .second, .val (.int t1), .val (.int t2), .val (.int t3), .val (.int t4), .val (.int (0 : Int32)), .val (.ref ke), .val (.ref ke), .val (.ref ki), .val (.int t65), .unset, .unset, .unset, .unset, .unset, .unset, .unset, .unset]) rfl ?_
          refine WP.lload (pc' := 131) at_129 rfl rfl ?_
          refine WP.ldc2J (pc' := 134) at_131 rfl (wd4 hw) ?_
          refine WP.land (pc' := 135) at_134 rfl ?_
          refine WP.lconst (pc' := 136) at_135 rfl (z := 1) rfl ?_
          refine WP.ladd (pc' := 137) at_136 rfl ?_
          generalize ht66 : ((x4 &&& (4294967295 : Int64)) + (1 : Int64)) = t66
          refine WP.lstore (pc' := 139) at_137 rfl (Ls' := #[.val (.int x0), .val (.int x1), .val (.int x2), .val (.int x3), .val (.long x4), .second, .val (.int t1), .val (.int t2), .val (.int t3), .val (.int t4), .val (.int (0 : Int32)), .val (.ref ke), .val (.ref ke), .val (.ref ki), .val (.int t65), .val (.long t66), .second, .unset, .unset, .unset, .unset, .unset, .unset]) rfl ?_
          exact L139 _ _ _ _ _ _ (by rw [← ht65]; exact endv _ _) (by rw [← ht66]; exact unv _)
      · intro hc78
        refine WP.getS (pc' := 84) at_81 rfl (host := "") (Or.inl (wd77 hw)) Via.refl (S_INC.ext O0.2) ?_
        refine WP.goto (pc' := 90) at_84 (by decide) (by decide) ?_
        refine WP.astore (pc' := 92) at_90 rfl rfl (Ls' := #[.val (.int x0), .val (.int x1), .val (.int x2), .val (.int x3), .val (.long x4), .second, .val (.int t1), .val (.int t2), .val (.int t3), .val (.int t4), .val (.int (0 : Int32)), .val (.ref ke), .val (.ref ki), .unset, .unset, .unset, .unset, .unset, .unset, .unset, .unset, .unset, .unset]) rfl ?_
        refine WP.iloadN (pc' := 93) at_92 rfl rfl ?_
        refine WP.bipush (pc' := 95) at_93 rfl (z := 6) rfl ?_
        refine WP.iushr (pc' := 96) at_95 rfl ?_
        refine WP.iconst (pc' := 97) at_96 rfl (z := 1) rfl ?_
        refine WP.iand (pc' := 98) at_97 rfl ?_
        refine WP.ifc_eq (pc1 := 107) (pc2 := 101) at_98 (by decide) (by decide) rfl ?_ ?_
        · intro hc98
          refine WP.getS (pc' := 110) at_107 rfl (host := "") (Or.inl (wd1 hw)) Via.refl (S_EXP.ext O0.2) ?_
          refine WP.astore (pc' := 112) at_110 rfl rfl (Ls' := #[.val (.int x0), .val (.int x1), .val (.int x2), .val (.int x3), .val (.long x4), .second, .val (.int t1), .val (.int t2), .val (.int t3), .val (.int t4), .val (.int (0 : Int32)), .val (.ref ke), .val (.ref ki), .val (.ref ke), .unset, .unset, .unset, .unset, .unset, .unset, .unset, .unset, .unset]) rfl ?_
          refine WP.iconst (pc' := 113) at_112 rfl (z := 1) rfl ?_
          refine WP.iloadN (pc' := 114) at_113 rfl rfl ?_
          refine WP.bipush (pc' := 116) at_114 rfl (z := 7) rfl ?_
          refine WP.iushr (pc' := 117) at_116 rfl ?_
          refine WP.iconst (pc' := 118) at_117 rfl (z := 1) rfl ?_
          refine WP.iand (pc' := 119) at_118 rfl ?_
          refine WP.iadd (pc' := 120) at_119 rfl ?_
          refine WP.iloadN (pc' := 121) at_120 rfl rfl ?_
          refine WP.bipush (pc' := 123) at_121 rfl (z := 8) rfl ?_
          refine WP.iushr (pc' := 124) at_123 rfl ?_
          refine WP.iconst (pc' := 125) at_124 rfl (z := 1) rfl ?_
          refine WP.iand (pc' := 126) at_125 rfl ?_
          refine WP.iadd (pc' := 127) at_126 rfl ?_
          generalize ht67 : (((1 : Int32) + (((x3.toUInt32 >>> ((7 : Int32) &&& 31).toUInt32).toInt32) &&& (1 : Int32))) + (((x3.toUInt32 >>> ((8 : Int32) &&& 31).toUInt32).toInt32) &&& (1 : Int32))) = t67
          refine WP.istore (pc' := 129) at_127 rfl (Ls' := #[.val (.int x0), .val (.int x1), .val (.int x2), .val (.int x3), .val (.long x4), .second, .val (.int t1), .val (.int t2), .val (.int t3), .val (.int t4), .val (.int (0 : Int32)), .val (.ref ke), .val (.ref ki), .val (.ref ke), .val (.int t67), .unset, .unset, .unset, .unset, .unset, .unset, .unset, .unset]) rfl ?_
          refine WP.lload (pc' := 131) at_129 rfl rfl ?_
          refine WP.ldc2J (pc' := 134) at_131 rfl (wd4 hw) ?_
          refine WP.land (pc' := 135) at_134 rfl ?_
          refine WP.lconst (pc' := 136) at_135 rfl (z := 1) rfl ?_
          refine WP.ladd (pc' := 137) at_136 rfl ?_
          generalize ht68 : ((x4 &&& (4294967295 : Int64)) + (1 : Int64)) = t68
          refine WP.lstore (pc' := 139) at_137 rfl (Ls' := #[.val (.int x0), .val (.int x1), .val (.int x2), .val (.int x3), .val (.long x4), .second, .val (.int t1), .val (.int t2), .val (.int t3), .val (.int t4), .val (.int (0 : Int32)), .val (.ref ke), .val (.ref ki), .val (.ref ke), .val (.int t67), .val (.long t68), .second, .unset, .unset, .unset, .unset, .unset, .unset]) rfl ?_
          exact L139 _ _ _ _ _ _ (by rw [← ht67]; exact endv _ _) (by rw [← ht68]; exact unv _)
        · intro hc98
          refine WP.getS (pc' := 104) at_101 rfl (host := "") (Or.inl (wd77 hw)) Via.refl (S_INC.ext O0.2) ?_
          refine WP.goto (pc' := 110) at_104 (by decide) (by decide) ?_
          refine WP.astore (pc' := 112) at_110 rfl rfl (Ls' := #[.val (.int x0), .val (.int x1), .val (.int x2), .val (.int x3), .val (.long x4), .second, .val (.int t1), .val (.int t2), .val (.int t3), .val (.int t4), .val (.int (0 : Int32)), .val (.ref ke), .val (.ref ki), .val (.ref ki), .unset, .unset, .unset, .unset, .unset, .unset, .unset, .unset, .unset]) rfl ?_
          refine WP.iconst (pc' := 113) at_112 rfl (z := 1) rfl ?_
          refine WP.iloadN (pc' := 114) at_113 rfl rfl ?_
          refine WP.bipush (pc' := 116) at_114 rfl (z := 7) rfl ?_
          refine WP.iushr (pc' := 117) at_116 rfl ?_
          refine WP.iconst (pc' := 118) at_117 rfl (z := 1) rfl ?_
          refine WP.iand (pc' := 119) at_118 rfl ?_
          refine WP.iadd (pc' := 120) at_119 rfl ?_
          refine WP.iloadN (pc' := 121) at_120 rfl rfl ?_
          refine WP.bipush (pc' := 123) at_121 rfl (z := 8) rfl ?_
          refine WP.iushr (pc' := 124) at_123 rfl ?_
          refine WP.iconst (pc' := 125) at_124 rfl (z := 1) rfl ?_
          refine WP.iand (pc' := 126) at_125 rfl ?_
          refine WP.iadd (pc' := 127) at_126 rfl ?_
          generalize ht69 : (((1 : Int32) + (((x3.toUInt32 >>> ((7 : Int32) &&& 31).toUInt32).toInt32) &&& (1 : Int32))) + (((x3.toUInt32 >>> ((8 : Int32) &&& 31).toUInt32).toInt32) &&& (1 : Int32))) = t69
          refine WP.istore (pc' := 129) at_127 rfl (Ls' := #[.val (.int x0), .val (.int x1), .val (.int x2), .val (.int x3), .val (.long x4), .second, .val (.int t1), .val (.int t2), .val (.int t3), .val (.int t4), .val (.int (0 : Int32)), .val (.ref ke), .val (.ref ki), .val (.ref ki), .val (.int t69), .unset, .unset, .unset, .unset, .unset, .unset, .unset, .unset]) rfl ?_
          refine WP.lload (pc' := 131) at_129 rfl rfl ?_
          refine WP.ldc2J (pc' := 134) at_131 rfl (wd4 hw) ?_
          refine WP.land (pc' := 135) at_134 rfl ?_
          refine WP.lconst (pc' := 136) at_135 rfl (z := 1) rfl ?_
          refine WP.ladd (pc' := 137) at_136 rfl ?_
          generalize ht70 : ((x4 &&& (4294967295 : Int64)) + (1 : Int64)) = t70
          refine WP.lstore (pc' := 139) at_137 rfl (Ls' := #[.val (.int x0), .val (.int x1), .val (.int x2), .val (.int x3), .val (.long x4), .second, .val (.int t1), .val (.int t2), .val (.int t3), .val (.int t4), .val (.int (0 : Int32)), .val (.ref ke), .val (.ref ki), .val (.ref ki), .val (.int t69), .val (.long t70), .second, .unset, .unset, .unset, .unset, .unset, .unset]) rfl ?_
          exact L139 _ _ _ _ _ _ (by rw [← ht69]; exact endv _ _) (by rw [← ht70]; exact unv _)
    · intro hc59
      refine WP.getS (pc' := 65) at_62 rfl (host := "") (Or.inl (wd77 hw)) Via.refl (S_INC.ext O0.2) ?_
      refine WP.goto (pc' := 71) at_65 (by decide) (by decide) ?_
      refine WP.astore (pc' := 73) at_71 rfl rfl (Ls' := #[.val (.int x0), .val (.int x1), .val (.int x2), .val (.int x3), .val (.long x4), .second, .val (.int t1), .val (.int t2), .val (.int t3), .val (.int t4), .val (.int (0 : Int32)), .val (.ref ki), .unset, .unset, .unset, .unset, .unset, .unset, .unset, .unset, .unset, .unset, .unset]) rfl ?_
      refine WP.iloadN (pc' := 74) at_73 rfl rfl ?_
      refine WP.iconst (pc' := 75) at_74 rfl (z := 5) rfl ?_
      refine WP.iushr (pc' := 76) at_75 rfl ?_
      refine WP.iconst (pc' := 77) at_76 rfl (z := 1) rfl ?_
      refine WP.iand (pc' := 78) at_77 rfl ?_
      refine WP.ifc_eq (pc1 := 87) (pc2 := 81) at_78 (by decide) (by decide) rfl ?_ ?_
      · intro hc78
        refine WP.getS (pc' := 90) at_87 rfl (host := "") (Or.inl (wd1 hw)) Via.refl (S_EXP.ext O0.2) ?_
        refine WP.astore (pc' := 92) at_90 rfl rfl (Ls' := #[.val (.int x0), .val (.int x1), .val (.int x2), .val (.int x3), .val (.long x4), .second, .val (.int t1), .val (.int t2), .val (.int t3), .val (.int t4), .val (.int (0 : Int32)), .val (.ref ki), .val (.ref ke), .unset, .unset, .unset, .unset, .unset, .unset, .unset, .unset, .unset, .unset]) rfl ?_
        refine WP.iloadN (pc' := 93) at_92 rfl rfl ?_
        refine WP.bipush (pc' := 95) at_93 rfl (z := 6) rfl ?_
        refine WP.iushr (pc' := 96) at_95 rfl ?_
        refine WP.iconst (pc' := 97) at_96 rfl (z := 1) rfl ?_
        refine WP.iand (pc' := 98) at_97 rfl ?_
        refine WP.ifc_eq (pc1 := 107) (pc2 := 101) at_98 (by decide) (by decide) rfl ?_ ?_
        · intro hc98
          refine WP.getS (pc' := 110) at_107 rfl (host := "") (Or.inl (wd1 hw)) Via.refl (S_EXP.ext O0.2) ?_
          refine WP.astore (pc' := 112) at_110 rfl rfl (Ls' := #[.val (.int x0), .val (.int x1), .val (.int x2), .val (.int x3), .val (.long x4), .second, .val (.int t1), .val (.int t2), .val (.int t3), .val (.int t4), .val (.int (0 : Int32)), .val (.ref ki), .val (.ref ke), .val (.ref ke), .unset, .unset, .unset, .unset, .unset, .unset, .unset, .unset, .unset]) rfl ?_
          refine WP.iconst (pc' := 113) at_112 rfl (z := 1) rfl ?_
          refine WP.iloadN (pc' := 114) at_113 rfl rfl ?_
          refine WP.bipush (pc' := 116) at_114 rfl (z := 7) rfl ?_
          refine WP.iushr (pc' := 117) at_116 rfl ?_
          refine WP.iconst (pc' := 118) at_117 rfl (z := 1) rfl ?_
          refine WP.iand (pc' := 119) at_118 rfl ?_
          refine WP.iadd (pc' := 120) at_119 rfl ?_
          refine WP.iloadN (pc' := 121) at_120 rfl rfl ?_
          refine WP.bipush (pc' := 123) at_121 rfl (z := 8) rfl ?_
          refine WP.iushr (pc' := 124) at_123 rfl ?_
          refine WP.iconst (pc' := 125) at_124 rfl (z := 1) rfl ?_
          refine WP.iand (pc' := 126) at_125 rfl ?_
          refine WP.iadd (pc' := 127) at_126 rfl ?_
          generalize ht71 : (((1 : Int32) + (((x3.toUInt32 >>> ((7 : Int32) &&& 31).toUInt32).toInt32) &&& (1 : Int32))) + (((x3.toUInt32 >>> ((8 : Int32) &&& 31).toUInt32).toInt32) &&& (1 : Int32))) = t71
          refine WP.istore (pc' := 129) at_127 rfl (Ls' := #[.val (.int x0), .val (.int x1), .val (.int x2), .val (.int x3), .val (.long x4), .second, .val (.int t1), .val (.int t2), .val (.int t3), .val (.int t4), .val (.int (0 : Int32)), .val (.ref ki), .val (.ref ke), .val (.ref ke), .val (.int t71), .unset, .unset, .unset, .unset, .unset, .unset, .unset, .unset]) rfl ?_
          refine WP.lload (pc' := 131) at_129 rfl rfl ?_
          refine WP.ldc2J (pc' := 134) at_131 rfl (wd4 hw) ?_
          refine WP.land (pc' := 135) at_134 rfl ?_
          refine WP.lconst (pc' := 136) at_135 rfl (z := 1) rfl ?_
          refine WP.ladd (pc' := 137) at_136 rfl ?_
          generalize ht72 : ((x4 &&& (4294967295 : Int64)) + (1 : Int64)) = t72
          refine WP.lstore (pc' := 139) at_137 rfl (Ls' := #[.val (.int x0), .val (.int x1), .val (.int x2), .val (.int x3), .val (.long x4), .second, .val (.int t1), .val (.int t2), .val (.int t3), .val (.int t4), .val (.int (0 : Int32)), .val (.ref ki), .val (.ref ke), .val (.ref ke), .val (.int t71), .val (.long t72), .second, .unset, .unset, .unset, .unset, .unset, .unset]) rfl ?_
          exact L139 _ _ _ _ _ _ (by rw [← ht71]; exact endv _ _) (by rw [← ht72]; exact unv _)
        · intro hc98
          refine WP.getS (pc' := 104) at_101 rfl (host := "") (Or.inl (wd77 hw)) Via.refl (S_INC.ext O0.2) ?_
          refine WP.goto (pc' := 110) at_104 (by decide) (by decide) ?_
          refine WP.astore (pc' := 112) at_110 rfl rfl (Ls' := #[.val (.int x0), .val (.int x1), .val (.int x2), .val (.int x3), .val (.long x4), .second, .val (.int t1), .val (.int t2), .val (.int t3), .val (.int t4), .val (.int (0 : Int32)), .val (.ref ki), .val (.ref ke), .val (.ref ki), .unset, .unset, .unset, .unset, .unset, .unset, .unset, .unset, .unset]) rfl ?_
          refine WP.iconst (pc' := 113) at_112 rfl (z := 1) rfl ?_
          refine WP.iloadN (pc' := 114) at_113 rfl rfl ?_
          refine WP.bipush (pc' := 116) at_114 rfl (z := 7) rfl ?_
          refine WP.iushr (pc' := 117) at_116 rfl ?_
          refine WP.iconst (pc' := 118) at_117 rfl (z := 1) rfl ?_
          refine WP.iand (pc' := 119) at_118 rfl ?_
          refine WP.iadd (pc' := 120) at_119 rfl ?_
          refine WP.iloadN (pc' := 121) at_120 rfl rfl ?_
          refine WP.bipush (pc' := 123) at_121 rfl (z := 8) rfl ?_
          refine WP.iushr (pc' := 124) at_123 rfl ?_
          refine WP.iconst (pc' := 125) at_124 rfl (z := 1) rfl ?_
          refine WP.iand (pc' := 126) at_125 rfl ?_
          refine WP.iadd (pc' := 127) at_126 rfl ?_
          generalize ht73 : (((1 : Int32) + (((x3.toUInt32 >>> ((7 : Int32) &&& 31).toUInt32).toInt32) &&& (1 : Int32))) + (((x3.toUInt32 >>> ((8 : Int32) &&& 31).toUInt32).toInt32) &&& (1 : Int32))) = t73
          refine WP.istore (pc' := 129) at_127 rfl (Ls' := #[.val (.int x0), .val (.int x1), .val (.int x2), .val (.int x3), .val (.long x4), .second, .val (.int t1), .val (.int t2), .val (.int t3), .val (.int t4), .val (.int (0 : Int32)), .val (.ref ki), .val (.ref ke), .val (.ref ki), .val (.int t73), .unset, .unset, .unset, .unset, .unset, .unset, .unset, .unset]) rfl ?_
          refine WP.lload (pc' := 131) at_129 rfl rfl ?_
          refine WP.ldc2J (pc' := 134) at_131 rfl (wd4 hw) ?_
          refine WP.land (pc' := 135) at_134 rfl ?_
          refine WP.lconst (pc' := 136) at_135 rfl (z := 1) rfl ?_
          refine WP.ladd (pc' := 137) at_136 rfl ?_
          generalize ht74 : ((x4 &&& (4294967295 : Int64)) + (1 : Int64)) = t74
          refine WP.lstore (pc' := 139) at_137 rfl (Ls' := #[.val (.int x0), .val (.int x1), .val (.int x2), .val (.int x3), .val (.long x4), .second, .val (.int t1), .val (.int t2), .val (.int t3), .val (.int t4), .val (.int (0 : Int32)), .val (.ref ki), .val (.ref ke), .val (.ref ki), .val (.int t73), .val (.long t74), .second, .unset, .unset, .unset, .unset, .unset, .unset]) rfl ?_
          exact L139 _ _ _ _ _ _ (by rw [← ht73]; exact endv _ _) (by rw [← ht74]; exact unv _)
      · intro hc78
        refine WP.getS (pc' := 84) at_81 rfl (host := "") (Or.inl (wd77 hw)) Via.refl (S_INC.ext O0.2) ?_
        refine WP.goto (pc' := 90) at_84 (by decide) (by decide) ?_
        refine WP.astore (pc' := 92) at_90 rfl rfl (Ls' := #[.val (.int x0), .val (.int x1), .val (.int x2), .val (.int x3), .val (.long x4), .second, .val (.int t1), .val (.int t2), .val (.int t3), .val (.int t4), .val (.int (0 : Int32)), .val (.ref ki), .val (.ref ki), .unset, .unset, .unset, .unset, .unset, .unset, .unset, .unset, .unset, .unset]) rfl ?_
        refine WP.iloadN (pc' := 93) at_92 rfl rfl ?_
        refine WP.bipush (pc' := 95) at_93 rfl (z := 6) rfl ?_
        refine WP.iushr (pc' := 96) at_95 rfl ?_
        refine WP.iconst (pc' := 97) at_96 rfl (z := 1) rfl ?_
        refine WP.iand (pc' := 98) at_97 rfl ?_
        refine WP.ifc_eq (pc1 := 107) (pc2 := 101) at_98 (by decide) (by decide) rfl ?_ ?_
        · intro hc98
          refine WP.getS (pc' := 110) at_107 rfl (host := "") (Or.inl (wd1 hw)) Via.refl (S_EXP.ext O0.2) ?_
          refine WP.astore (pc' := 112) at_110 rfl rfl (Ls' := #[.val (.int x0), .val (.int x1), .val (.int x2), .val (.int x3), .val (.long x4), .second, .val (.int t1), .val (.int t2), .val (.int t3), .val (.int t4), .val (.int (0 : Int32)), .val (.ref ki), .val (.ref ki), .val (.ref ke), .unset, .unset, .unset, .unset, .unset, .unset, .unset, .unset, .unset]) rfl ?_
          refine WP.iconst (pc' := 113) at_112 rfl (z := 1) rfl ?_
          refine WP.iloadN (pc' := 114) at_113 rfl rfl ?_
          refine WP.bipush (pc' := 116) at_114 rfl (z := 7) rfl ?_
          refine WP.iushr (pc' := 117) at_116 rfl ?_
          refine WP.iconst (pc' := 118) at_117 rfl (z := 1) rfl ?_
          refine WP.iand (pc' := 119) at_118 rfl ?_
          refine WP.iadd (pc' := 120) at_119 rfl ?_
          refine WP.iloadN (pc' := 121) at_120 rfl rfl ?_
          refine WP.bipush (pc' := 123) at_121 rfl (z := 8) rfl ?_
          refine WP.iushr (pc' := 124) at_123 rfl ?_
          refine WP.iconst (pc' := 125) at_124 rfl (z := 1) rfl ?_
          refine WP.iand (pc' := 126) at_125 rfl ?_
          refine WP.iadd (pc' := 127) at_126 rfl ?_
          generalize ht75 : (((1 : Int32) + (((x3.toUInt32 >>> ((7 : Int32) &&& 31).toUInt32).toInt32) &&& (1 : Int32))) + (((x3.toUInt32 >>> ((8 : Int32) &&& 31).toUInt32).toInt32) &&& (1 : Int32))) = t75
          refine WP.istore (pc' := 129) at_127 rfl (Ls' := #[.val (.int x0), .val (.int x1), .val (.int x2), .val (.int x3), .val (.long x4), .second, .val (.int t1), .val (.int t2), .val (.int t3), .val (.int t4), .val (.int (0 : Int32)), .val (.ref ki), .val (.ref ki), .val (.ref ke), .val (.int t75), .unset, .unset, .unset, .unset, .unset, .unset, .unset, .unset]) rfl ?_
          refine WP.lload (pc' := 131) at_129 rfl rfl ?_
          refine WP.ldc2J (pc' := 134) at_131 rfl (wd4 hw) ?_
          refine WP.land (pc' := 135) at_134 rfl ?_
          refine WP.lconst (pc' := 136) at_135 rfl (z := 1) rfl ?_
          refine WP.ladd (pc' := 137) at_136 rfl ?_
          generalize ht76 : ((x4 &&& (4294967295 : Int64)) + (1 : Int64)) = t76
          refine WP.lstore (pc' := 139) at_137 rfl (Ls' := #[.val (.int x0), .val (.int x1), .val (.int x2), .val (.int x3), .val (.long x4), .second, .val (.int t1), .val (.int t2), .val (.int t3), .val (.int t4), .val (.int (0 : Int32)), .val (.ref ki), .val (.ref ki), .val (.ref ke), .val (.int t75), .val (.long t76), .second, .unset, .unset, .unset, .unset, .unset, .unset]) rfl ?_
          exact L139 _ _ _ _ _ _ (by rw [← ht75]; exact endv _ _) (by rw [← ht76]; exact unv _)
        · intro hc98
          refine WP.getS (pc' := 104) at_101 rfl (host := "") (Or.inl (wd77 hw)) Via.refl (S_INC.ext O0.2) ?_
          refine WP.goto (pc' := 110) at_104 (by decide) (by decide) ?_
          refine WP.astore (pc' := 112) at_110 rfl rfl (Ls' := #[.val (.int x0), .val (.int x1), .val (.int x2), .val (.int x3), .val (.long x4), .second, .val (.int t1), .val (.int t2), .val (.int t3), .val (.int t4), .val (.int (0 : Int32)), .val (.ref ki), .val (.ref ki), .val (.ref ki), .unset, .unset, .unset, .unset, .unset, .unset, .unset, .unset, .unset]) rfl ?_
          refine WP.iconst (pc' := 113) at_112 rfl (z := 1) rfl ?_
          refine WP.iloadN (pc' := 114) at_113 rfl rfl ?_
          refine WP.bipush (pc' := 116) at_114 rfl (z := 7) rfl ?_
          refine WP.iushr (pc' := 117) at_116 rfl ?_
          refine WP.iconst (pc' := 118) at_117 rfl (z := 1) rfl ?_
          refine WP.iand (pc' := 119) at_118 rfl ?_
          refine WP.iadd (pc' := 120) at_119 rfl ?_
          refine WP.iloadN (pc' := 121) at_120 rfl rfl ?_
          refine WP.bipush (pc' := 123) at_121 rfl (z := 8) rfl ?_
          refine WP.iushr (pc' := 124) at_123 rfl ?_
          refine WP.iconst (pc' := 125) at_124 rfl (z := 1) rfl ?_
          refine WP.iand (pc' := 126) at_125 rfl ?_
          refine WP.iadd (pc' := 127) at_126 rfl ?_
          generalize ht77 : (((1 : Int32) + (((x3.toUInt32 >>> ((7 : Int32) &&& 31).toUInt32).toInt32) &&& (1 : Int32))) + (((x3.toUInt32 >>> ((8 : Int32) &&& 31).toUInt32).toInt32) &&& (1 : Int32))) = t77
          refine WP.istore (pc' := 129) at_127 rfl (Ls' := #[.val (.int x0), .val (.int x1), .val (.int x2), .val (.int x3), .val (.long x4), .second, .val (.int t1), .val (.int t2), .val (.int t3), .val (.int t4), .val (.int (0 : Int32)), .val (.ref ki), .val (.ref ki), .val (.ref ki), .val (.int t77), .unset, .unset, .unset, .unset, .unset, .unset, .unset, .unset]) rfl ?_
          refine WP.lload (pc' := 131) at_129 rfl rfl ?_
          refine WP.ldc2J (pc' := 134) at_131 rfl (wd4 hw) ?_
          refine WP.land (pc' := 135) at_134 rfl ?_
          refine WP.lconst (pc' := 136) at_135 rfl (z := 1) rfl ?_
          refine WP.ladd (pc' := 137) at_136 rfl ?_
          generalize ht78 : ((x4 &&& (4294967295 : Int64)) + (1 : Int64)) = t78
          refine WP.lstore (pc' := 139) at_137 rfl (Ls' := #[.val (.int x0), .val (.int x1), .val (.int x2), .val (.int x3), .val (.long x4), .second, .val (.int t1), .val (.int t2), .val (.int t3), .val (.int t4), .val (.int (0 : Int32)), .val (.ref ki), .val (.ref ki), .val (.ref ki), .val (.int t77), .val (.long t78), .second, .unset, .unset, .unset, .unset, .unset, .unset]) rfl ?_
          exact L139 _ _ _ _ _ _ (by rw [← ht77]; exact endv _ _) (by rw [← ht78]; exact unv _)
  · intro hc44
    refine WP.iconst (pc' := 48) at_47 rfl (z := 1) rfl ?_
    refine WP.goto (pc' := 52) at_48 (by decide) (by decide) ?_
    refine WP.istore (pc' := 54) at_52 rfl (Ls' := #[.val (.int x0), .val (.int x1), .val (.int x2), .val (.int x3), .val (.long x4), .second, .val (.int t1), .val (.int t2), .val (.int t3), .val (.int t4), .val (.int (1 : Int32)), .unset, .unset, .unset, .unset, .unset, .unset, .unset, .unset, .unset, .unset, .unset, .unset]) rfl ?_
    refine WP.iloadN (pc' := 55) at_54 rfl rfl ?_
    refine WP.iconst (pc' := 56) at_55 rfl (z := 4) rfl ?_
    refine WP.iushr (pc' := 57) at_56 rfl ?_
    refine WP.iconst (pc' := 58) at_57 rfl (z := 1) rfl ?_
    refine WP.iand (pc' := 59) at_58 rfl ?_
    refine WP.ifc_eq (pc1 := 68) (pc2 := 62) at_59 (by decide) (by decide) rfl ?_ ?_
    · intro hc59
      refine WP.getS (pc' := 71) at_68 rfl (host := "") (Or.inl (wd1 hw)) Via.refl (S_EXP.ext O0.2) ?_
      refine WP.astore (pc' := 73) at_71 rfl rfl (Ls' := #[.val (.int x0), .val (.int x1), .val (.int x2), .val (.int x3), .val (.long x4), .second, .val (.int t1), .val (.int t2), .val (.int t3), .val (.int t4), .val (.int (1 : Int32)), .val (.ref ke), .unset, .unset, .unset, .unset, .unset, .unset, .unset, .unset, .unset, .unset, .unset]) rfl ?_
      refine WP.iloadN (pc' := 74) at_73 rfl rfl ?_
      refine WP.iconst (pc' := 75) at_74 rfl (z := 5) rfl ?_
      refine WP.iushr (pc' := 76) at_75 rfl ?_
      refine WP.iconst (pc' := 77) at_76 rfl (z := 1) rfl ?_
      refine WP.iand (pc' := 78) at_77 rfl ?_
      refine WP.ifc_eq (pc1 := 87) (pc2 := 81) at_78 (by decide) (by decide) rfl ?_ ?_
      · intro hc78
        refine WP.getS (pc' := 90) at_87 rfl (host := "") (Or.inl (wd1 hw)) Via.refl (S_EXP.ext O0.2) ?_
        refine WP.astore (pc' := 92) at_90 rfl rfl (Ls' := #[.val (.int x0), .val (.int x1), .val (.int x2), .val (.int x3), .val (.long x4), .second, .val (.int t1), .val (.int t2), .val (.int t3), .val (.int t4), .val (.int (1 : Int32)), .val (.ref ke), .val (.ref ke), .unset, .unset, .unset, .unset, .unset, .unset, .unset, .unset, .unset, .unset]) rfl ?_
        refine WP.iloadN (pc' := 93) at_92 rfl rfl ?_
        refine WP.bipush (pc' := 95) at_93 rfl (z := 6) rfl ?_
        refine WP.iushr (pc' := 96) at_95 rfl ?_
        refine WP.iconst (pc' := 97) at_96 rfl (z := 1) rfl ?_
        refine WP.iand (pc' := 98) at_97 rfl ?_
        refine WP.ifc_eq (pc1 := 107) (pc2 := 101) at_98 (by decide) (by decide) rfl ?_ ?_
        · intro hc98
          refine WP.getS (pc' := 110) at_107 rfl (host := "") (Or.inl (wd1 hw)) Via.refl (S_EXP.ext O0.2) ?_
          refine WP.astore (pc' := 112) at_110 rfl rfl (Ls' := #[.val (.int x0), .val (.int x1), .val (.int x2), .val (.int x3), .val (.long x4), .second, .val (.int t1), .val (.int t2), .val (.int t3), .val (.int t4), .val (.int (1 : Int32)), .val (.ref ke), .val (.ref ke), .val (.ref ke), .unset, .unset, .unset, .unset, .unset, .unset, .unset, .unset, .unset]) rfl ?_
          refine WP.iconst (pc' := 113) at_112 rfl (z := 1) rfl ?_
          refine WP.iloadN (pc' := 114) at_113 rfl rfl ?_
          refine WP.bipush (pc' := 116) at_114 rfl (z := 7) rfl ?_
          refine WP.iushr (pc' := 117) at_116 rfl ?_
          refine WP.iconst (pc' := 118) at_117 rfl (z := 1) rfl ?_
          refine WP.iand (pc' := 119) at_118 rfl ?_
          refine WP.iadd (pc' := 120) at_119 rfl ?_
          refine WP.iloadN (pc' := 121) at_120 rfl rfl ?_
          refine WP.bipush (pc' := 123) at_121 rfl (z := 8) rfl ?_
          refine WP.iushr (pc' := 124) at_123 rfl ?_
          refine WP.iconst (pc' := 125) at_124 rfl (z := 1) rfl ?_
          refine WP.iand (pc' := 126) at_125 rfl ?_
          refine WP.iadd (pc' := 127) at_126 rfl ?_
          generalize ht79 : (((1 : Int32) + (((x3.toUInt32 >>> ((7 : Int32) &&& 31).toUInt32).toInt32) &&& (1 : Int32))) + (((x3.toUInt32 >>> ((8 : Int32) &&& 31).toUInt32).toInt32) &&& (1 : Int32))) = t79
          refine WP.istore (pc' := 129) at_127 rfl (Ls' := #[.val (.int x0), .val (.int x1), .val (.int x2), .val (.int x3), .val (.long x4), .second, .val (.int t1), .val (.int t2), .val (.int t3), .val (.int t4), .val (.int (1 : Int32)), .val (.ref ke), .val (.ref ke), .val (.ref ke), .val (.int t79), .unset, .unset, .unset, .unset, .unset, .unset, .unset, .unset]) rfl ?_
          refine WP.lload (pc' := 131) at_129 rfl rfl ?_
          refine WP.ldc2J (pc' := 134) at_131 rfl (wd4 hw) ?_
          refine WP.land (pc' := 135) at_134 rfl ?_
          refine WP.lconst (pc' := 136) at_135 rfl (z := 1) rfl ?_
          refine WP.ladd (pc' := 137) at_136 rfl ?_
          generalize ht80 : ((x4 &&& (4294967295 : Int64)) + (1 : Int64)) = t80
          refine WP.lstore (pc' := 139) at_137 rfl (Ls' := #[.val (.int x0), .val (.int x1), .val (.int x2), .val (.int x3), .val (.long x4), .second, .val (.int t1), .val (.int t2), .val (.int t3), .val (.int t4), .val (.int (1 : Int32)), .val (.ref ke), .val (.ref ke), .val (.ref ke), .val (.int t79), .val (.long t80), .second, .unset, .unset, .unset, .unset, .unset, .unset]) rfl ?_
          exact L139 _ _ _ _ _ _ (by rw [← ht79]; exact endv _ _) (by rw [← ht80]; exact unv _)
        · intro hc98
          refine WP.getS (pc' := 104) at_101 rfl (host := "") (Or.inl (wd77 hw)) Via.refl (S_INC.ext O0.2) ?_
          refine WP.goto (pc' := 110) at_104 (by decide) (by decide) ?_
          refine WP.astore (pc' := 112) at_110 rfl rfl (Ls' := #[.val (.int x0), .val (.int x1), .val (.int x2), .val (.int x3), .val (.long x4), .second, .val (.int t1), .val (.int t2), .val (.int t3), .val (.int t4), .val (.int (1 : Int32)), .val (.ref ke), .val (.ref ke), .val (.ref ki), .unset, .unset, .unset, .unset, .unset, .unset, .unset, .unset, .unset]) rfl ?_
          refine WP.iconst (pc' := 113) at_112 rfl (z := 1) rfl ?_
          refine WP.iloadN (pc' := 114) at_113 rfl rfl ?_
          refine WP.bipush (pc' := 116) at_114 rfl (z := 7) rfl ?_
          refine WP.iushr (pc' := 117) at_116 rfl ?_
          refine WP.iconst (pc' := 118) at_117 rfl (z := 1) rfl ?_
          refine WP.iand (pc' := 119) at_118 rfl ?_
          refine WP.iadd (pc' := 120) at_119 rfl ?_
          refine WP.iloadN (pc' := 121) at_120 rfl rfl ?_
          refine WP.bipush (pc' := 123) at_121 rfl (z := 8) rfl ?_
          refine WP.iushr (pc' := 124) at_123 rfl ?_
          refine WP.iconst (pc' := 125) at_124 rfl (z := 1) rfl ?_
          refine WP.iand (pc' := 126) at_125 rfl ?_
          refine WP.iadd (pc' := 127) at_126 rfl ?_
          generalize ht81 : (((1 : Int32) + (((x3.toUInt32 >>> ((7 : Int32) &&& 31).toUInt32).toInt32) &&& (1 : Int32))) + (((x3.toUInt32 >>> ((8 : Int32) &&& 31).toUInt32).toInt32) &&& (1 : Int32))) = t81
          refine WP.istore (pc' := 129) at_127 rfl (Ls' := #[.val (.int x0), .val (.int x1), .val (.int x2), .val (.int x3), .val (.long x4), .second, .val (.int t1), .val (.int t2), .val (.int t3), .val (.int t4), .val (.int (1 : Int32)), .val (.ref ke), .val (.ref ke), .val (.ref ki), .val (.int t81), .unset, .unset, .unset, .unset, .unset, .unset, .unset, .unset]) rfl ?_
          refine WP.lload (pc' := 131) at_129 rfl rfl ?_
          refine WP.ldc2J (pc' := 134) at_131 rfl (wd4 hw) ?_
          refine WP.land (pc' := 135) at_134 rfl ?_
          refine WP.lconst (pc' := 136) at_135 rfl (z := 1) rfl ?_
          refine WP.ladd (pc' := 137) at_136 rfl ?_
          generalize ht82 : ((x4 &&& (4294967295 : Int64)) + (1 : Int64)) = t82
          refine WP.lstore (pc' := 139) at_137 rfl (Ls' := #[.val (.int x0), .val (.int x1), .val (.int x2), .val (.int x3), .val (.long x4), .second, .val (.int t1), .val (.int t2), .val (.int t3), .val (.int t4), .val (.int (1 : Int32)), .val (.ref ke), .val (.ref ke), .val (.ref ki), .val (.int t81), .val (.long t82), .second, .unset, .unset, .unset, .unset, .unset, .unset]) rfl ?_
          exact L139 _ _ _ _ _ _ (by rw [← ht81]; exact endv _ _) (by rw [← ht82]; exact unv _)
      · intro hc78
        refine WP.getS (pc' := 84) at_81 rfl (host := "") (Or.inl (wd77 hw)) Via.refl (S_INC.ext O0.2) ?_
        refine WP.goto (pc' := 90) at_84 (by decide) (by decide) ?_
        refine WP.astore (pc' := 92) at_90 rfl rfl (Ls' := #[.val (.int x0), .val (.int x1), .val (.int x2), .val (.int x3), .val (.long x4), .second, .val (.int t1), .val (.int t2), .val (.int t3), .val (.int t4), .val (.int (1 : Int32)), .val (.ref ke), .val (.ref ki), .unset, .unset, .unset, .unset, .unset, .unset, .unset, .unset, .unset, .unset]) rfl ?_
        refine WP.iloadN (pc' := 93) at_92 rfl rfl ?_
        refine WP.bipush (pc' := 95) at_93 rfl (z := 6) rfl ?_
        refine WP.iushr (pc' := 96) at_95 rfl ?_
        refine WP.iconst (pc' := 97) at_96 rfl (z := 1) rfl ?_
        refine WP.iand (pc' := 98) at_97 rfl ?_
        refine WP.ifc_eq (pc1 := 107) (pc2 := 101) at_98 (by decide) (by decide) rfl ?_ ?_
        · intro hc98
          refine WP.getS (pc' := 110) at_107 rfl (host := "") (Or.inl (wd1 hw)) Via.refl (S_EXP.ext O0.2) ?_
          refine WP.astore (pc' := 112) at_110 rfl rfl (Ls' := #[.val (.int x0), .val (.int x1), .val (.int x2), .val (.int x3), .val (.long x4), .second, .val (.int t1), .val (.int t2), .val (.int t3), .val (.int t4), .val (.int (1 : Int32)), .val (.ref ke), .val (.ref ki), .val (.ref ke), .unset, .unset, .unset, .unset, .unset, .unset, .unset, .unset, .unset]) rfl ?_
          refine WP.iconst (pc' := 113) at_112 rfl (z := 1) rfl ?_
          refine WP.iloadN (pc' := 114) at_113 rfl rfl ?_
          refine WP.bipush (pc' := 116) at_114 rfl (z := 7) rfl ?_
          refine WP.iushr (pc' := 117) at_116 rfl ?_
          refine WP.iconst (pc' := 118) at_117 rfl (z := 1) rfl ?_
          refine WP.iand (pc' := 119) at_118 rfl ?_
          refine WP.iadd (pc' := 120) at_119 rfl ?_
          refine WP.iloadN (pc' := 121) at_120 rfl rfl ?_
          refine WP.bipush (pc' := 123) at_121 rfl (z := 8) rfl ?_
          refine WP.iushr (pc' := 124) at_123 rfl ?_
          refine WP.iconst (pc' := 125) at_124 rfl (z := 1) rfl ?_
          refine WP.iand (pc' := 126) at_125 rfl ?_
          refine WP.iadd (pc' := 127) at_126 rfl ?_
          generalize ht83 : (((1 : Int32) + (((x3.toUInt32 >>> ((7 : Int32) &&& 31).toUInt32).toInt32) &&& (1 : Int32))) + (((x3.toUInt32 >>> ((8 : Int32) &&& 31).toUInt32).toInt32) &&& (1 : Int32))) = t83
          refine WP.istore (pc' := 129) at_127 rfl (Ls' := #[.val (.int x0), .val (.int x1), .val (.int x2), .val (.int x3), .val (.long x4), .second, .val (.int t1), .val (.int t2), .val (.int t3), .val (.int t4), .val (.int (1 : Int32)), .val (.ref ke), .val (.ref ki), .val (.ref ke), .val (.int t83), .unset, .unset, .unset, .unset, .unset, .unset, .unset, .unset]) rfl ?_
          refine WP.lload (pc' := 131) at_129 rfl rfl ?_
          refine WP.ldc2J (pc' := 134) at_131 rfl (wd4 hw) ?_
          refine WP.land (pc' := 135) at_134 rfl ?_
          refine WP.lconst (pc' := 136) at_135 rfl (z := 1) rfl ?_
          refine WP.ladd (pc' := 137) at_136 rfl ?_
          generalize ht84 : ((x4 &&& (4294967295 : Int64)) + (1 : Int64)) = t84
          refine WP.lstore (pc' := 139) at_137 rfl (Ls' := #[.val (.int x0), .val (.int x1), .val (.int x2), .val (.int x3), .val (.long x4), .second, .val (.int t1), .val (.int t2), .val (.int t3), .val (.int t4), .val (.int (1 : Int32)), .val (.ref ke), .val (.ref ki), .val (.ref ke), .val (.int t83), .val (.long t84), .second, .unset, .unset, .unset, .unset, .unset, .unset]) rfl ?_
          exact L139 _ _ _ _ _ _ (by rw [← ht83]; exact endv _ _) (by rw [← ht84]; exact unv _)
        · intro hc98
          refine WP.getS (pc' := 104) at_101 rfl (host := "") (Or.inl (wd77 hw)) Via.refl (S_INC.ext O0.2) ?_
          refine WP.goto (pc' := 110) at_104 (by decide) (by decide) ?_
          refine WP.astore (pc' := 112) at_110 rfl rfl (Ls' := #[.val (.int x0), .val (.int x1), .val (.int x2), .val (.int x3), .val (.long x4), .second, .val (.int t1), .val (.int t2), .val (.int t3), .val (.int t4), .val (.int (1 : Int32)), .val (.ref ke), .val (.ref ki), .val (.ref ki), .unset, .unset, .unset, .unset, .unset, .unset, .unset, .unset, .unset]) rfl ?_
          refine WP.iconst (pc' := 113) at_112 rfl (z := 1) rfl ?_
          refine WP.iloadN (pc' := 114) at_113 rfl rfl ?_
          refine WP.bipush (pc' := 116) at_114 rfl (z := 7) rfl ?_
          refine WP.iushr (pc' := 117) at_116 rfl ?_
          refine WP.iconst (pc' := 118) at_117 rfl (z := 1) rfl ?_
          refine WP.iand (pc' := 119) at_118 rfl ?_
          refine WP.iadd (pc' := 120) at_119 rfl ?_
          refine WP.iloadN (pc' := 121) at_120 rfl rfl ?_
          refine WP.bipush (pc' := 123) at_121 rfl (z := 8) rfl ?_
          refine WP.iushr (pc' := 124) at_123 rfl ?_
          refine WP.iconst (pc' := 125) at_124 rfl (z := 1) rfl ?_
          refine WP.iand (pc' := 126) at_125 rfl ?_
          refine WP.iadd (pc' := 127) at_126 rfl ?_
          generalize ht85 : (((1 : Int32) + (((x3.toUInt32 >>> ((7 : Int32) &&& 31).toUInt32).toInt32) &&& (1 : Int32))) + (((x3.toUInt32 >>> ((8 : Int32) &&& 31).toUInt32).toInt32) &&& (1 : Int32))) = t85
          refine WP.istore (pc' := 129) at_127 rfl (Ls' := #[.val (.int x0), .val (.int x1), .val (.int x2), .val (.int x3), .val (.long x4), .second, .val (.int t1), .val (.int t2), .val (.int t3), .val (.int t4), .val (.int (1 : Int32)), .val (.ref ke), .val (.ref ki), .val (.ref ki), .val (.int t85), .unset, .unset, .unset, .unset, .unset, .unset, .unset, .unset]) rfl ?_
          refine WP.lload (pc' := 131) at_129 rfl rfl ?_
          refine WP.ldc2J (pc' := 134) at_131 rfl (wd4 hw) ?_
          refine WP.land (pc' := 135) at_134 rfl ?_
          refine WP.lconst (pc' := 136) at_135 rfl (z := 1) rfl ?_
          refine WP.ladd (pc' := 137) at_136 rfl ?_
          generalize ht86 : ((x4 &&& (4294967295 : Int64)) + (1 : Int64)) = t86
          refine WP.lstore (pc' := 139) at_137 rfl (Ls' := #[.val (.int x0), .val (.int x1), .val (.int x2), .val (.int x3), .val (.long x4), .second, .val (.int t1), .val (.int t2), .val (.int t3), .val (.int t4), .val (.int (1 : Int32)), .val (.ref ke), .val (.ref ki), .val (.ref ki), .val (.int t85), .val (.long t86), .second, .unset, .unset, .unset, .unset, .unset, .unset]) rfl ?_
          exact L139 _ _ _ _ _ _ (by rw [← ht85]; exact endv _ _) (by rw [← ht86]; exact unv _)
    · intro hc59
      refine WP.getS (pc' := 65) at_62 rfl (host := "") (Or.inl (wd77 hw)) Via.refl (S_INC.ext O0.2) ?_
      refine WP.goto (pc' := 71) at_65 (by decide) (by decide) ?_
      refine WP.astore (pc' := 73) at_71 rfl rfl (Ls' := #[.val (.int x0), .val (.int x1), .val (.int x2), .val (.int x3), .val (.long x4), .second, .val (.int t1), .val (.int t2), .val (.int t3), .val (.int t4), .val (.int (1 : Int32)), .val (.ref ki), .unset, .unset, .unset, .unset, .unset, .unset, .unset, .unset, .unset, .unset, .unset]) rfl ?_
      refine WP.iloadN (pc' := 74) at_73 rfl rfl ?_
      refine WP.iconst (pc' := 75) at_74 rfl (z := 5) rfl ?_
      refine WP.iushr (pc' := 76) at_75 rfl ?_
      refine WP.iconst (pc' := 77) at_76 rfl (z := 1) rfl ?_
      refine WP.iand (pc' := 78) at_77 rfl ?_
      refine WP.ifc_eq (pc1 := 87) (pc2 := 81) at_78 (by decide) (by decide) rfl ?_ ?_
      · intro hc78
        refine WP.getS (pc' := 90) at_87 rfl (host := "") (Or.inl (wd1 hw)) Via.refl (S_EXP.ext O0.2) ?_
        refine WP.astore (pc' := 92) at_90 rfl rfl (Ls' := #[.val (.int x0), .val (.int x1), .val (.int x2), .val (.int x3), .val (.long x4), .second, .val (.int t1), .val (.int t2), .val (.int t3), .val (.int t4), .val (.int (1 : Int32)), .val (.ref ki), .val (.ref ke), .unset, .unset, .unset, .unset, .unset, .unset, .unset, .unset, .unset, .unset]) rfl ?_
        refine WP.iloadN (pc' := 93) at_92 rfl rfl ?_
        refine WP.bipush (pc' := 95) at_93 rfl (z := 6) rfl ?_
        refine WP.iushr (pc' := 96) at_95 rfl ?_
        refine WP.iconst (pc' := 97) at_96 rfl (z := 1) rfl ?_
        refine WP.iand (pc' := 98) at_97 rfl ?_
        refine WP.ifc_eq (pc1 := 107) (pc2 := 101) at_98 (by decide) (by decide) rfl ?_ ?_
        · intro hc98
          refine WP.getS (pc' := 110) at_107 rfl (host := "") (Or.inl (wd1 hw)) Via.refl (S_EXP.ext O0.2) ?_
          refine WP.astore (pc' := 112) at_110 rfl rfl (Ls' := #[.val (.int x0), .val (.int x1), .val (.int x2), .val (.int x3), .val (.long x4), .second, .val (.int t1), .val (.int t2), .val (.int t3), .val (.int t4), .val (.int (1 : Int32)), .val (.ref ki), .val (.ref ke), .val (.ref ke), .unset, .unset, .unset, .unset, .unset, .unset, .unset, .unset, .unset]) rfl ?_
          refine WP.iconst (pc' := 113) at_112 rfl (z := 1) rfl ?_
          refine WP.iloadN (pc' := 114) at_113 rfl rfl ?_
          refine WP.bipush (pc' := 116) at_114 rfl (z := 7) rfl ?_
          refine WP.iushr (pc' := 117) at_116 rfl ?_
          refine WP.iconst (pc' := 118) at_117 rfl (z := 1) rfl ?_
          refine WP.iand (pc' := 119) at_118 rfl ?_
          refine WP.iadd (pc' := 120) at_119 rfl ?_
          refine WP.iloadN (pc' := 121) at_120 rfl rfl ?_
          refine WP.bipush (pc' := 123) at_121 rfl (z := 8) rfl ?_
          refine WP.iushr (pc' := 124) at_123 rfl ?_
          refine WP.iconst (pc' := 125) at_124 rfl (z := 1) rfl ?_
          refine WP.iand (pc' := 126) at_125 rfl ?_
          refine WP.iadd (pc' := 127) at_126 rfl ?_
          generalize ht87 : (((1 : Int32) + (((x3.toUInt32 >>> ((7 : Int32) &&& 31).toUInt32).toInt32) &&& (1 : Int32))) + (((x3.toUInt32 >>> ((8 : Int32) &&& 31).toUInt32).toInt32) &&& (1 : Int32))) = t87
          refine WP.istore (pc' := 129) at_127 rfl (Ls' := #[.val (.int x0), .val (.int x1), .val (.int x2), .val (.int x3), .val (.long x4), .second, .val (.int t1), .val (.int t2), .val (.int t3), .val (.int t4), .val (.int (1 : Int32)), .val (.ref ki), .val (.ref ke), .val (.ref ke), .val (.int t87), .unset, .unset, .unset, .unset, .unset, .unset, .unset, .unset]) rfl ?_
          refine WP.lload (pc' := 131) at_129 rfl rfl ?_
          refine WP.ldc2J (pc' := 134) at_131 rfl (wd4 hw) ?_
          refine WP.land (pc' := 135) at_134 rfl ?_
          refine WP.lconst (pc' := 136) at_135 rfl (z := 1) rfl ?_
          refine WP.ladd (pc' := 137) at_136 rfl ?_
          generalize ht88 : ((x4 &&& (4294967295 : Int64)) + (1 : Int64)) = t88
          refine WP.lstore (pc' := 139) at_137 rfl (Ls' := #[.val (.int x0), .val (.int x1), .val (.int x2), .val (.int x3), .val (.long x4), .second, .val (.int t1), .val (.int t2), .val (.int t3), .val (.int t4), .val (.int (1 : Int32)), .val (.ref ki), .val (.ref ke), .val (.ref ke), .val (.int t87), .val (.long t88), .second, .unset, .unset, .unset, .unset, .unset, .unset]) rfl ?_
          exact L139 _ _ _ _ _ _ (by rw [← ht87]; exact endv _ _) (by rw [← ht88]; exact unv _)
        · intro hc98
          refine WP.getS (pc' := 104) at_101 rfl (host := "") (Or.inl (wd77 hw)) Via.refl (S_INC.ext O0.2) ?_
          refine WP.goto (pc' := 110) at_104 (by decide) (by decide) ?_
          refine WP.astore (pc' := 112) at_110 rfl rfl (Ls' := #[.val (.int x0), .val (.int x1), .val (.int x2), .val (.int x3), .val (.long x4), .second, .val (.int t1), .val (.int t2), .val (.int t3), .val (.int t4), .val (.int (1 : Int32)), .val (.ref ki), .val (.ref ke), .val (.ref ki), .unset, .unset, .unset, .unset, .unset, .unset, .unset, .unset, .unset]) rfl ?_
          refine WP.iconst (pc' := 113) at_112 rfl (z := 1) rfl ?_
          refine WP.iloadN (pc' := 114) at_113 rfl rfl ?_
          refine WP.bipush (pc' := 116) at_114 rfl (z := 7) rfl ?_
          refine WP.iushr (pc' := 117) at_116 rfl ?_
          refine WP.iconst (pc' := 118) at_117 rfl (z := 1) rfl ?_
          refine WP.iand (pc' := 119) at_118 rfl ?_
          refine WP.iadd (pc' := 120) at_119 rfl ?_
          refine WP.iloadN (pc' := 121) at_120 rfl rfl ?_
          refine WP.bipush (pc' := 123) at_121 rfl (z := 8) rfl ?_
          refine WP.iushr (pc' := 124) at_123 rfl ?_
          refine WP.iconst (pc' := 125) at_124 rfl (z := 1) rfl ?_
          refine WP.iand (pc' := 126) at_125 rfl ?_
          refine WP.iadd (pc' := 127) at_126 rfl ?_
          generalize ht89 : (((1 : Int32) + (((x3.toUInt32 >>> ((7 : Int32) &&& 31).toUInt32).toInt32) &&& (1 : Int32))) + (((x3.toUInt32 >>> ((8 : Int32) &&& 31).toUInt32).toInt32) &&& (1 : Int32))) = t89
          refine WP.istore (pc' := 129) at_127 rfl (Ls' := #[.val (.int x0), .val (.int x1), .val (.int x2), .val (.int x3), .val (.long x4), .second, .val (.int t1), .val (.int t2), .val (.int t3), .val (.int t4), .val (.int (1 : Int32)), .val (.ref ki), .val (.ref ke), .val (.ref ki), .val (.int t89), .unset, .unset, .unset, .unset, .unset, .unset, .unset, .unset]) rfl ?_
          refine WP.lload (pc' := 131) at_129 rfl rfl ?_
          refine WP.ldc2J (pc' := 134) at_131 rfl (wd4 hw) ?_
          refine WP.land (pc' := 135) at_134 rfl ?_
          refine WP.lconst (pc' := 136) at_135 rfl (z := 1) rfl ?_
          refine WP.ladd (pc' := 137) at_136 rfl ?_
          generalize ht90 : ((x4 &&& (4294967295 : Int64)) + (1 : Int64)) = t90
          refine WP.lstore (pc' := 139) at_137 rfl (Ls' := #[.val (.int x0), .val (.int x1), .val (.int x2), .val (.int x3), .val (.long x4), .second, .val (.int t1), .val (.int t2), .val (.int t3), .val (.int t4), .val (.int (1 : Int32)), .val (.ref ki), .val (.ref ke), .val (.ref ki), .val (.int t89), .val (.long t90), .second, .unset, .unset, .unset, .unset, .unset, .unset]) rfl ?_
          exact L139 _ _ _ _ _ _ (by rw [← ht89]; exact endv _ _) (by rw [← ht90]; exact unv _)
      · intro hc78
        refine WP.getS (pc' := 84) at_81 rfl (host := "") (Or.inl (wd77 hw)) Via.refl (S_INC.ext O0.2) ?_
        refine WP.goto (pc' := 90) at_84 (by decide) (by decide) ?_
        refine WP.astore (pc' := 92) at_90 rfl rfl (Ls' := #[.val (.int x0), .val (.int x1), .val (.int x2), .val (.int x3), .val (.long x4), .second, .val (.int t1), .val (.int t2), .val (.int t3), .val (.int t4), .val (.int (1 : Int32)), .val (.ref ki), .val (.ref ki), .unset, .unset, .unset, .unset, .unset, .unset, .unset, .unset, .unset, .unset]) rfl ?_
        refine WP.iloadN (pc' := 93) at_92 rfl rfl ?_
        refine WP.bipush (pc' := 95) at_93 rfl (z := 6) rfl ?_
        refine WP.iushr (pc' := 96) at_95 rfl ?_
        refine WP.iconst (pc' := 97) at_96 rfl (z := 1) rfl ?_
        refine WP.iand (pc' := 98) at_97 rfl ?_
        refine WP.ifc_eq (pc1 := 107) (pc2 := 101) at_98 (by decide) (by decide) rfl ?_ ?_
        · intro hc98
          refine WP.getS (pc' := 110) at_107 rfl (host := "") (Or.inl (wd1 hw)) Via.refl (S_EXP.ext O0.2) ?_
          refine WP.astore (pc' := 112) at_110 rfl rfl (Ls' := #[.val (.int x0), .val (.int x1), .val (.int x2), .val (.int x3), .val (.long x4), .second, .val (.int t1), .val (.int t2), .val (.int t3), .val (.int t4), .val (.int (1 : Int32)), .val (.ref ki), .val (.ref ki), .val (.ref ke), .unset, .unset, .unset, .unset, .unset, .unset, .unset, .unset, .unset]) rfl ?_
          refine WP.iconst (pc' := 113) at_112 rfl (z := 1) rfl ?_
          refine WP.iloadN (pc' := 114) at_113 rfl rfl ?_
          refine WP.bipush (pc' := 116) at_114 rfl (z := 7) rfl ?_
          refine WP.iushr (pc' := 117) at_116 rfl ?_
          refine WP.iconst (pc' := 118) at_117 rfl (z := 1) rfl ?_
          refine WP.iand (pc' := 119) at_118 rfl ?_
          refine WP.iadd (pc' := 120) at_119 rfl ?_
          refine WP.iloadN (pc' := 121) at_120 rfl rfl ?_
          refine WP.bipush (pc' := 123) at_121 rfl (z := 8) rfl ?_
          refine WP.iushr (pc' := 124) at_123 rfl ?_
          refine WP.iconst (pc' := 125) at_124 rfl (z := 1) rfl ?_
          refine WP.iand (pc' := 126) at_125 rfl ?_
          refine WP.iadd (pc' := 127) at_126 rfl ?_
          generalize ht91 : (((1 : Int32) + (((x3.toUInt32 >>> ((7 : Int32) &&& 31).toUInt32).toInt32) &&& (1 : Int32))) + (((x3.toUInt32 >>> ((8 : Int32) &&& 31).toUInt32).toInt32) &&& (1 : Int32))) = t91
          refine WP.istore (pc' := 129) at_127 rfl (Ls' := #[.val (.int x0), .val (.int x1), .val (.int x2), .val (.int x3), .val (.long x4), .second, .val (.int t1), .val (.int t2), .val (.int t3), .val (.int t4), .val (.int (1 : Int32)), .val (.ref ki), .val (.ref ki), .val (.ref ke), .val (.int t91), .unset, .unset, .unset, .unset, .unset, .unset, .unset, .unset]) rfl ?_
          refine WP.lload (pc' := 131) at_129 rfl rfl ?_
          refine WP.ldc2J (pc' := 134) at_131 rfl (wd4 hw) ?_
          refine WP.land (pc' := 135) at_134 rfl ?_
          refine WP.lconst (pc' := 136) at_135 rfl (z := 1) rfl ?_
          refine WP.ladd (pc' := 137) at_136 rfl ?_
          generalize ht92 : ((x4 &&& (4294967295 : Int64)) + (1 : Int64)) = t92
          refine WP.lstore (pc' := 139) at_137 rfl (Ls' := #[.val (.int x0), .val (.int x1), .val (.int x2), .val (.int x3), .val (.long x4), .second, .val (.int t1), .val (.int t2), .val (.int t3), .val (.int t4), .val (.int (1 : Int32)), .val (.ref ki), .val (.ref ki), .val (.ref ke), .val (.int t91), .val (.long t92), .second, .unset, .unset, .unset, .unset, .unset, .unset]) rfl ?_
          exact L139 _ _ _ _ _ _ (by rw [← ht91]; exact endv _ _) (by rw [← ht92]; exact unv _)
        · intro hc98
          refine WP.getS (pc' := 104) at_101 rfl (host := "") (Or.inl (wd77 hw)) Via.refl (S_INC.ext O0.2) ?_
          refine WP.goto (pc' := 110) at_104 (by decide) (by decide) ?_
          refine WP.astore (pc' := 112) at_110 rfl rfl (Ls' := #[.val (.int x0), .val (.int x1), .val (.int x2), .val (.int x3), .val (.long x4), .second, .val (.int t1), .val (.int t2), .val (.int t3), .val (.int t4), .val (.int (1 : Int32)), .val (.ref ki), .val (.ref ki), .val (.ref ki), .unset, .unset, .unset, .unset, .unset, .unset, .unset, .unset, .unset]) rfl ?_
          refine WP.iconst (pc' := 113) at_112 rfl (z := 1) rfl ?_
          refine WP.iloadN (pc' := 114) at_113 rfl rfl ?_
          refine WP.bipush (pc' := 116) at_114 rfl (z := 7) rfl ?_
          refine WP.iushr (pc' := 117) at_116 rfl ?_
          refine WP.iconst (pc' := 118) at_117 rfl (z := 1) rfl ?_
          refine WP.iand (pc' := 119) at_118 rfl ?_
          refine WP.iadd (pc' := 120) at_119 rfl ?_
          refine WP.iloadN (pc' := 121) at_120 rfl rfl ?_
          refine WP.bipush (pc' := 123) at_121 rfl (z := 8) rfl ?_
          refine WP.iushr (pc' := 124) at_123 rfl ?_
          refine WP.iconst (pc' := 125) at_124 rfl (z := 1) rfl ?_
          refine WP.iand (pc' := 126) at_125 rfl ?_
          refine WP.iadd (pc' := 127) at_126 rfl ?_
          generalize ht93 : (((1 : Int32) + (((x3.toUInt32 >>> ((7 : Int32) &&& 31).toUInt32).toInt32) &&& (1 : Int32))) + (((x3.toUInt32 >>> ((8 : Int32) &&& 31).toUInt32).toInt32) &&& (1 : Int32))) = t93
          refine WP.istore (pc' := 129) at_127 rfl (Ls' := #[.val (.int x0), .val (.int x1), .val (.int x2), .val (.int x3), .val (.long x4), .second, .val (.int t1), .val (.int t2), .val (.int t3), .val (.int t4), .val (.int (1 : Int32)), .val (.ref ki), .val (.ref ki), .val (.ref ki), .val (.int t93), .unset, .unset, .unset, .unset, .unset, .unset, .unset, .unset]) rfl ?_
          refine WP.lload (pc' := 131) at_129 rfl rfl ?_
          refine WP.ldc2J (pc' := 134) at_131 rfl (wd4 hw) ?_
          refine WP.land (pc' := 135) at_134 rfl ?_
          refine WP.lconst (pc' := 136) at_135 rfl (z := 1) rfl ?_
          refine WP.ladd (pc' := 137) at_136 rfl ?_
          generalize ht94 : ((x4 &&& (4294967295 : Int64)) + (1 : Int64)) = t94
          refine WP.lstore (pc' := 139) at_137 rfl (Ls' := #[.val (.int x0), .val (.int x1), .val (.int x2), .val (.int x3), .val (.long x4), .second, .val (.int t1), .val (.int t2), .val (.int t3), .val (.int t4), .val (.int (1 : Int32)), .val (.ref ki), .val (.ref ki), .val (.ref ki), .val (.int t93), .val (.long t94), .second, .unset, .unset, .unset, .unset, .unset, .unset]) rfl ?_
          exact L139 _ _ _ _ _ _ (by rw [← ht93]; exact endv _ _) (by rw [← ht94]; exact unv _)
theorem wd2 {Z : State} {a0 : Array Value} (hw : ∀ d ∈ tables_1, d.before a0 Z = true) : (Jvm.Cond.initialized "com/example/tallyfold/tallyfold/Entry$Kind").before a0 Z = true := hw _ (List.mem_of_getElem? (i := 2) rfl)
theorem wd3 {Z : State} {a0 : Array Value} (hw : ∀ d ∈ tables_1, d.before a0 Z = true) : (Jvm.Cond.laysStatic "com/example/tallyfold/tallyfold/Entry$Kind" "EXPENSE" "Lcom/example/tallyfold/tallyfold/Entry$Kind;").before a0 Z = true := hw _ (List.mem_of_getElem? (i := 3) rfl)
theorem wd28 {Z : State} {a0 : Array Value} (hw : ∀ d ∈ tables_1, d.before a0 Z = true) : (Jvm.Cond.laysStatic "com/example/tallyfold/tallyfold/Entry$Kind" "INCOME" "Lcom/example/tallyfold/tallyfold/Entry$Kind;").before a0 Z = true := hw _ (List.mem_of_getElem? (i := 28) rfl)
set_option maxRecDepth 65536 in
set_option maxHeartbeats 40000000 in
theorem comes_1 {Post : Tables → Env → Array Value → State → Outcome → State → Prop} (hpost : ∀ tb e args s v u, (limb_1_1.after args s (.returned v) u = true ∧ limb_1_2.after args s (.returned v) u = true ∧ True) → FrameEnd s (.returned v) u (Jvm.fieldLocs frame_1_writes args s ++ Jvm.arrayLocs frame_1_arrays args s ++ Jvm.staticLocs frame_1_statics s) 32 9216 → Post tb e args s (.returned v) u) :
    ArmFor flags0 classFile x code maxLocals ret World_1 tables_1 room_1 Calls_1 rest_1 Pre_1 Post := by
  intro l hfl _ _ p e ha hc hk s m args below hf hA hF happ hP
  obtain ⟨hcalls, hrest, hpre⟩ := hP
  obtain ⟨-, -, -, hnamed, -, -, -, hat⟩ := (Spec.applies_iff hf).mp happ
  obtain ⟨hg, hn⟩ := and_e (Cond.before_iff.mp (show (Jvm.Cond.and given_1 narrow_1).before args s = true from hpre))
  obtain ⟨g1, g2⟩ := and_e hg
  obtain ⟨g3, g4⟩ := and_e g2
  obtain ⟨g5, g6⟩ := and_e g4
  obtain ⟨g7, g8⟩ := and_e g6
  obtain ⟨g9, g10⟩ := and_e g8
  obtain ⟨w0, w1, w2, w3, w4, rfl⟩ : ∃ w0 w1 w2 w3 w4 : Value, args = #[w0, w1, w2, w3, w4] := by
    have hs : args.size = 5 := by simpa [Cond.value, given_1] using g1
    obtain ⟨L⟩ := args
    match L, hs with
    | [w0, w1, w2, w3, w4], _ => exact ⟨w0, w1, w2, w3, w4, rfl⟩
  have hw := fun d (hd : d ∈ tables_1) => atoms_spec (ws := Jvm.Cond.code x code maxLocals ret :: tables_1) hat d (List.mem_cons_of_mem _ hd)
  have hfit : Fit s := fun {y c} hc i hi => by
    obtain ⟨ha, rfl⟩ := Array.getElem?_eq_some_iff.mp hc
    have q := List.all_eq_true.mp ((Array.all_eq_true_iff_forall_mem.mp hF) _ (Array.getElem_mem ha)) i (List.mem_range.mpr hi)
    simpa [Array.getElem?_eq_getElem hi] using q
  obtain ⟨i0, ei0⟩ := is_v g3
  obtain rfl : w0 = (.int i0) := Option.some.inj ei0
  obtain ⟨i1, ei1⟩ := is_v g5
  obtain rfl : w1 = (.int i1) := Option.some.inj ei1
  obtain ⟨i2, ei2⟩ := is_v g7
  obtain rfl : w2 = (.int i2) := Option.some.inj ei2
  obtain ⟨i3, ei3⟩ := is_v g9
  obtain rfl : w3 = (.int i3) := Option.some.inj ei3
  obtain ⟨i4, ei4⟩ := isL_v g10
  obtain rfl : w4 = (.long i4) := Option.some.inj ei4
  obtain ⟨k11, k12⟩ := and_e hn
  obtain ⟨k13, k14⟩ := and_e k12
  obtain ⟨k15, k16⟩ := and_e k14
  obtain ⟨a_EXPENSE, ev_EXPENSE, S_EXPENSE, E_EXPENSE⟩ := Sta.of_exa k11 (Or.inr ⟨(wd2 hw), (wd3 hw)⟩)
  obtain ⟨a_INCOME, ev_INCOME, S_INCOME, E_INCOME⟩ := Sta.of_exa k13 (Or.inr ⟨(wd2 hw), (wd28 hw)⟩)
  have F_EXPENSE_ordinal := Fld.of_eq ev_EXPENSE k15
  have F_INCOME_ordinal := Fld.of_eq ev_INCOME k16
  obtain ⟨n, o, h1, h2, h3, _, L, rfl, ⟨rfl, N⟩, hq⟩ := rm0 (Z := s) hw i0 i1 i2 i3 i4 s.heap s.heap.size (Nat.le_refl _) (Old.start s) a_INCOME S_INCOME a_EXPENSE S_EXPENSE l tables_1 p e ha hc hk s m _ below hf ((Spec.applies_iff_loose hf).mp happ).1 ⟨rfl, State.Warmed39.refl s, rfl⟩ trivial
  refine ⟨n, _, h1, h2, h3, hpost _ _ _ _ _ _ ⟨Cond.after_iff.mpr rfl, Cond.after_iff.mpr (eq_i res_at (Term.int_eval (1)) rfl), trivial⟩ ⟨hq.1, hq.2.1, (hq.2.2.sift fun y hy => Or.inr (N y hy)).mono (by decide) (by decide)⟩⟩
theorem main_1_1 : Claimed_1_1 := comes_1 fun _ _ _ _ _ _ h hF => ⟨h.1, hF⟩
theorem main_1_2 : Claimed_1_2 := comes_1 fun _ _ _ _ _ _ h hF => ⟨h.2.1, hF⟩
end Jvm.Pilot.@@N@@
namespace Jvm.Pilot.@@N@@
open Jvm Jvm.ClassFile Sem Op Lib Jvm.Free Jvm.Stand Jvm.Pilot.@@N@@.Jvm.D
/-! MADE BY PROGRAM (witnessworld.py) out of the Statement's table words and the real class files: 16 classes; the members and pool entries that the words name. The judged class is class 1, her method 1. -/
namespace start1
open Jvm.ClassFile
def u (s : String) : CpInfo := .utf8 (stringToUtf16 s)
/-- a pool by its gaps: so many unusable entries, then the entry; so many at the end -/
def gap : Nat → List CpInfo → List CpInfo
  | 0, r => r
  | n + 1, r => .unusable :: gap n r
def poolList (es : List (Nat × CpInfo)) (last : Nat) : List CpInfo := es.foldr (fun e r => gap e.1 (e.2 :: r)) (gap last [])
def pool (es : List (Nat × CpInfo)) (last : Nat) : Array CpInfo := ⟨poolList es last⟩
def fileOf (pool : Array CpInfo) (this : Nat) (attrs : Array Attribute := #[]) (ms : Array MethodInfo := #[]) (fl : Nat := 33) (sup : Nat := 0) (ifs : Array Nat := #[]) (fds : Array FieldInfo := #[]) : ClassFile where
  minorVersion := 0
  majorVersion := 65
  constantPool := pool
  accessFlags := fl
  thisClass := this
  superClass := sup
  interfaces := ifs
  fields := fds
  methods := ms
  attributes := attrs
def plain (name : String) (sup : Option ClassId) : Class where
  name := name
  kind := .ordinary
  loader := none
  accessFlags := 33
  super := sup
  interfaces := #[]
  cf := none
  fields := #[]
  methods := #[]
  instanceTypes := #[]
  staticTypes := #[]
  resolved := #[]
  callSites := []
  init := .initialized
  statics := none
  mirror := none

def pool0 : Array CpInfo := pool [(5, u "<init>"), (0, u "()V"), (1, .class_ 10), (1, u "java/lang/Object")] 113

def k0c0 : Code := { maxStack := 0, maxLocals := 1, code := object_method_1_code, exceptionTable := #[], attributes := #[] }
def k0m0 : Method := { name := "<init>", desc := "()V", sig := { parameters := [], returnType := none }, accessFlags := 1, code := some k0c0 }
/-- java/lang/Object -/
def k0 : Class := { plain "java/lang/Object" none with
  accessFlags := 33
  interfaces := #[]
  cf := some (fileOf pool0 8 #[] #[{ accessFlags := 1, nameIndex := 5, descriptorIndex := 6, attributes := #[] }] 33 0 #[] #[])
  fields := #[]
  methods := #[k0m0]
  instanceTypes := #[]
  staticTypes := #[]
  resolved := Array.replicate 124 none
  statics := none }

def pool1 : Array CpInfo := pool [(2, .class_ 4), (0, .nameAndType 5 6), (0, u "java/lang/Object"), (0, u "<init>"), (0, u "()V"), (0, .integer 2147483647), (0, .fieldref 9 10), (0, .class_ 11), (0, .nameAndType 12 13), (0, u "com/example/tallyfold/tallyfold/Entry$Kind"), (0, u "INCOME"), (0, u "Lcom/example/tallyfold/tallyfold/Entry$Kind;"), (0, .fieldref 9 15), (0, .nameAndType 16 13), (0, u "EXPENSE"), (0, .long 4294967295), (1, .class_ 20), (0, u "com/example/tallyfold/tallyfold/EntryLines"), (0, .methodref 19 3), (0, .methodref 19 23), (0, .nameAndType 24 25), (0, u "keep"), (0, u "(I[BIILcom/example/tallyfold/tallyfold/Entry$Kind;J)Z"), (0, .methodref 19 27), (0, .nameAndType 28 29), (0, u "first"), (0, u "()I"), (0, .methodref 19 31), (0, .nameAndType 32 33), (0, u "remove"), (0, u "(ILcom/example/tallyfold/tallyfold/Entry$Kind;J)V"), (0, .class_ 35), (0, u "com/example/tallyfold/tallyfold/EntryLinesFirstPinLaw"), (2, u "law"), (0, u "(IIIIJ)Z")] 9

def k1m0 : Method := { name := "<init>", desc := "()V", sig := { parameters := [], returnType := none }, accessFlags := 1, code := none }
def k1c1 : Code := { maxStack := 8, maxLocals := 23, code := code, exceptionTable := #[], attributes := #[] }
def k1m1 : Method := { name := "law", desc := "(IIIIJ)Z", sig := { parameters := [.int, .int, .int, .int, .long], returnType := some .boolean }, accessFlags := 9, code := some k1c1 }
/-- com/example/tallyfold/tallyfold/EntryLinesFirstPinLaw -/
def k1 : Class := { plain "com/example/tallyfold/tallyfold/EntryLinesFirstPinLaw" (some 0) with
  accessFlags := 49
  interfaces := #[]
  cf := some (fileOf pool1 34 #[] #[{ accessFlags := 1, nameIndex := 5, descriptorIndex := 6, attributes := #[] }, { accessFlags := 9, nameIndex := 38, descriptorIndex := 39, attributes := #[] }] 49 2 #[] #[])
  fields := #[]
  methods := #[k1m0, k1m1]
  instanceTypes := #[]
  staticTypes := #[]
  resolved := Array.replicate 49 none
  statics := none }

def pool2 : Array CpInfo := pool [(1, .class_ 2), (0, u "java/lang/constant/Constable"), (0, .class_ 4), (0, u "java/lang/Object")] 6

/-- java/lang/constant/Constable -/
def k2 : Class := { plain "java/lang/constant/Constable" (some 0) with
  accessFlags := 1537
  interfaces := #[]
  cf := some (fileOf pool2 1 #[] #[] 1537 3 #[] #[])
  fields := #[]
  methods := #[]
  instanceTypes := #[]
  staticTypes := #[]
  resolved := Array.replicate 11 none
  statics := none }

def pool3 : Array CpInfo := pool [(1, .class_ 2), (0, u "java/lang/Comparable"), (0, .class_ 4), (0, u "java/lang/Object")] 7

/-- java/lang/Comparable -/
def k3 : Class := { plain "java/lang/Comparable" (some 0) with
  accessFlags := 1537
  interfaces := #[]
  cf := some (fileOf pool3 1 #[] #[] 1537 3 #[] #[])
  fields := #[]
  methods := #[]
  instanceTypes := #[]
  staticTypes := #[]
  resolved := Array.replicate 12 none
  statics := none }

def pool4 : Array CpInfo := pool [(1, .class_ 2), (0, u "java/io/Serializable"), (0, .class_ 4), (0, u "java/lang/Object")] 2

/-- java/io/Serializable -/
def k4 : Class := { plain "java/io/Serializable" (some 0) with
  accessFlags := 1537
  interfaces := #[]
  cf := some (fileOf pool4 1 #[] #[] 1537 3 #[] #[])
  fields := #[]
  methods := #[]
  instanceTypes := #[]
  staticTypes := #[]
  resolved := Array.replicate 7 none
  statics := none }

def pool5 : Array CpInfo := pool [(2, .class_ 4), (1, u "java/lang/Enum"), (0, u "name"), (0, u "Ljava/lang/String;"), (2, u "ordinal"), (0, u "I"), (1, .class_ 14), (1, u "java/lang/Object"), (4, u "hash"), (86, .class_ 108), (1, u "java/lang/Enum$EnumDesc"), (2, .class_ 112), (0, u "java/lang/constant/Constable"), (0, .class_ 114), (0, u "java/lang/Comparable"), (0, .class_ 116), (0, u "java/io/Serializable")] 87

/-- java/lang/Enum -/
def k5 : Class := { plain "java/lang/Enum" (some 0) with
  accessFlags := 1057
  interfaces := #[2, 3, 4]
  cf := some (fileOf pool5 2 #[.nestMembers #[106]] #[] 1057 12 #[111, 113, 115] #[{ accessFlags := 18, nameIndex := 5, descriptorIndex := 6, attributes := #[] }, { accessFlags := 18, nameIndex := 9, descriptorIndex := 10, attributes := #[] }, { accessFlags := 2, nameIndex := 19, descriptorIndex := 10, attributes := #[] }])
  fields := #[{ name := "name", type := (.object "java/lang/String"), accessFlags := 18, slot := 0, constantValue := 0 }, { name := "ordinal", type := .int, accessFlags := 18, slot := 1, constantValue := 0 }, { name := "hash", type := .int, accessFlags := 2, slot := 2, constantValue := 0 }]
  methods := #[]
  instanceTypes := #[(.object "java/lang/String"), .int, .int]
  staticTypes := #[]
  resolved := Array.replicate 204 none
  statics := none }

def pool6 : Array CpInfo := pool [(1, .class_ 2), (0, u "com/example/tallyfold/tallyfold/Entry$Kind"), (2, u "EXPENSE"), (0, u "Lcom/example/tallyfold/tallyfold/Entry$Kind;"), (2, u "INCOME"), (2, u "$VALUES"), (0, u "[Lcom/example/tallyfold/tallyfold/Entry$Kind;"), (6, .class_ 22), (1, u "java/lang/Enum"), (8, u "word"), (0, u "Ljava/lang/String;"), (14, u "wordBytes"), (0, u "[B"), (27, .class_ 77), (0, u "com/example/tallyfold/tallyfold/Entry")] 2

/-- com/example/tallyfold/tallyfold/Entry$Kind -/
def k6 : Class := { plain "com/example/tallyfold/tallyfold/Entry$Kind" (some 5) with
  accessFlags := 16432
  interfaces := #[]
  cf := some (fileOf pool6 1 #[.nestHost 76] #[] 16432 20 #[] #[{ accessFlags := 16409, nameIndex := 5, descriptorIndex := 6, attributes := #[] }, { accessFlags := 16409, nameIndex := 9, descriptorIndex := 6, attributes := #[] }, { accessFlags := 18, nameIndex := 31, descriptorIndex := 32, attributes := #[] }, { accessFlags := 18, nameIndex := 47, descriptorIndex := 48, attributes := #[] }, { accessFlags := 4122, nameIndex := 12, descriptorIndex := 13, attributes := #[] }])
  fields := #[{ name := "EXPENSE", type := (.object "com/example/tallyfold/tallyfold/Entry$Kind"), accessFlags := 16409, slot := 0, constantValue := 0 }, { name := "INCOME", type := (.object "com/example/tallyfold/tallyfold/Entry$Kind"), accessFlags := 16409, slot := 1, constantValue := 0 }, { name := "word", type := (.object "java/lang/String"), accessFlags := 18, slot := 3, constantValue := 0 }, { name := "wordBytes", type := (.array .byte), accessFlags := 18, slot := 4, constantValue := 0 }, { name := "$VALUES", type := (.array (.object "com/example/tallyfold/tallyfold/Entry$Kind")), accessFlags := 4122, slot := 2, constantValue := 0 }]
  methods := #[]
  instanceTypes := #[(.object "java/lang/String"), .int, .int, (.object "java/lang/String"), (.array .byte)]
  staticTypes := #[(.object "com/example/tallyfold/tallyfold/Entry$Kind"), (.object "com/example/tallyfold/tallyfold/Entry$Kind"), (.array (.object "com/example/tallyfold/tallyfold/Entry$Kind"))]
  resolved := Array.replicate 80 none
  statics := some 0 }

def pool7 : Array CpInfo := pool [(3, .methodref 4 5), (0, .class_ 6), (0, .nameAndType 7 8), (0, u "java/lang/Object"), (0, u "<init>"), (0, u "()V"), (0, .fieldref 10 11), (0, .class_ 12), (0, .nameAndType 13 14), (0, u "com/example/tallyfold/tallyfold/EntryLines"), (0, u "bytes"), (0, u "[B"), (0, .fieldref 10 16), (0, .nameAndType 17 18), (0, u "starts"), (0, u "[I"), (0, .fieldref 10 20), (0, .nameAndType 21 18), (0, u "ends"), (0, .fieldref 23 24), (0, .class_ 25), (0, .nameAndType 26 27), (0, u "com/example/tallyfold/tallyfold/Entry$Kind"), (0, u "INCOME"), (0, u "Lcom/example/tallyfold/tallyfold/Entry$Kind;"), (0, .fieldref 10 29), (0, .nameAndType 30 31), (0, u "income"), (0, u "J"), (0, .fieldref 10 33), (0, .nameAndType 34 31), (0, u "expenses"), (2, .long 9223372036854775807), (1, .integer 2147483631), (0, .fieldref 10 41), (0, .nameAndType 42 43), (0, u "used"), (0, u "I"), (0, .long 2), (1, .long 4096), (1, .methodref 49 50), (0, .class_ 51), (0, .nameAndType 52 53), (0, u "java/lang/Math"), (0, u "max"), (0, u "(JJ)J"), (0, .long 2147483631), (1, .methodref 49 57), (0, .nameAndType 58 53), (0, u "min"), (0, .methodref 60 61), (0, .class_ 62), (0, .nameAndType 63 64), (0, u "java/util/Arrays"), (0, u "copyOf"), (0, u "([BI)[B"), (0, .methodref 49 66), (0, .nameAndType 52 67), (0, u "(II)I"), (0, .methodref 60 69), (0, .nameAndType 63 70), (0, u "([II)[I"), (0, .methodref 72 73), (0, .class_ 74), (0, .nameAndType 75 76), (0, u "java/lang/System"), (0, u "arraycopy"), (0, u "(Ljava/lang/Object;ILjava/lang/Object;II)V"), (0, .fieldref 10 78), (0, .nameAndType 79 43), (0, u "count"), (0, .fieldref 10 81), (0, .nameAndType 82 43), (0, u "lowest"), (7, u "()I"), (9, u "MOST_BYTES"), (3, u "keep"), (0, u "(I[BIILcom/example/tallyfold/tallyfold/Entry$Kind;J)Z"), (5, u "first"), (4, u "remove"), (0, u "(ILcom/example/tallyfold/tallyfold/Entry$Kind;J)V")] 8

def k7c0 : Code := { maxStack := 2, maxLocals := 1, code := prog_24_method_1_code, exceptionTable := #[], attributes := #[] }
def k7m0 : Method := { name := "<init>", desc := "()V", sig := { parameters := [], returnType := none }, accessFlags := 0, code := some k7c0 }
def k7c1 : Code := { maxStack := 6, maxLocals := 13, code := prog_24_method_2_code, exceptionTable := #[], attributes := #[] }
def k7m1 : Method := { name := "keep", desc := "(I[BIILcom/example/tallyfold/tallyfold/Entry$Kind;J)Z", sig := { parameters := [.int, (.array .byte), .int, .int, (.object "com/example/tallyfold/tallyfold/Entry$Kind"), .long], returnType := some .boolean }, accessFlags := 0, code := some k7c1 }
def k7c2 : Code := { maxStack := 3, maxLocals := 1, code := prog_24_method_5_code, exceptionTable := #[], attributes := #[] }
def k7m2 : Method := { name := "first", desc := "()I", sig := { parameters := [], returnType := some .int }, accessFlags := 0, code := some k7c2 }
def k7c3 : Code := { maxStack := 5, maxLocals := 5, code := prog_24_method_9_code, exceptionTable := #[], attributes := #[] }
def k7m3 : Method := { name := "remove", desc := "(ILcom/example/tallyfold/tallyfold/Entry$Kind;J)V", sig := { parameters := [.int, (.object "com/example/tallyfold/tallyfold/Entry$Kind"), .long], returnType := none }, accessFlags := 0, code := some k7c3 }
/-- com/example/tallyfold/tallyfold/EntryLines -/
def k7 : Class := { plain "com/example/tallyfold/tallyfold/EntryLines" (some 0) with
  accessFlags := 48
  interfaces := #[]
  cf := some (fileOf pool7 10 #[] #[{ accessFlags := 0, nameIndex := 7, descriptorIndex := 8, attributes := #[] }, { accessFlags := 0, nameIndex := 104, descriptorIndex := 105, attributes := #[] }, { accessFlags := 0, nameIndex := 111, descriptorIndex := 90, attributes := #[] }, { accessFlags := 0, nameIndex := 116, descriptorIndex := 117, attributes := #[] }] 48 4 #[] #[{ accessFlags := 26, nameIndex := 100, descriptorIndex := 43, attributes := #[] }, { accessFlags := 2, nameIndex := 13, descriptorIndex := 14, attributes := #[] }, { accessFlags := 2, nameIndex := 42, descriptorIndex := 43, attributes := #[] }, { accessFlags := 2, nameIndex := 17, descriptorIndex := 18, attributes := #[] }, { accessFlags := 2, nameIndex := 21, descriptorIndex := 18, attributes := #[] }, { accessFlags := 2, nameIndex := 82, descriptorIndex := 43, attributes := #[] }, { accessFlags := 2, nameIndex := 79, descriptorIndex := 43, attributes := #[] }, { accessFlags := 2, nameIndex := 30, descriptorIndex := 31, attributes := #[] }, { accessFlags := 2, nameIndex := 34, descriptorIndex := 31, attributes := #[] }])
  fields := #[{ name := "MOST_BYTES", type := .int, accessFlags := 26, slot := 0, constantValue := 0 }, { name := "bytes", type := (.array .byte), accessFlags := 2, slot := 0, constantValue := 0 }, { name := "used", type := .int, accessFlags := 2, slot := 1, constantValue := 0 }, { name := "starts", type := (.array .int), accessFlags := 2, slot := 2, constantValue := 0 }, { name := "ends", type := (.array .int), accessFlags := 2, slot := 3, constantValue := 0 }, { name := "lowest", type := .int, accessFlags := 2, slot := 4, constantValue := 0 }, { name := "count", type := .int, accessFlags := 2, slot := 5, constantValue := 0 }, { name := "income", type := .long, accessFlags := 2, slot := 6, constantValue := 0 }, { name := "expenses", type := .long, accessFlags := 2, slot := 7, constantValue := 0 }]
  methods := #[k7m0, k7m1, k7m2, k7m3]
  instanceTypes := #[(.array .byte), .int, (.array .int), (.array .int), .int, .int, .long, .long]
  staticTypes := #[.int]
  resolved := Array.replicate 126 none
  statics := none }

def pool8 : Array CpInfo := pool [(1, .class_ 2), (0, u "java/lang/Math"), (1, .class_ 6), (1, u "java/lang/Object"), (0, u "<init>"), (0, u "()V"), (89, .class_ 100), (1, u "java/lang/Math$RandomNumberGeneratorHolder"), (20, u "(JJ)J"), (50, u "negativeZeroFloatBits"), (0, u "J"), (2, u "negativeZeroDoubleBits"), (21, u "max"), (2, u "min"), (43, u "$assertionsDisabled"), (0, u "Z"), (88, u "(II)I"), (2, u "twoToTheDoubleScaleDown"), (0, u "D"), (4, u "twoToTheDoubleScaleUp"), (9, u "E"), (3, u "PI"), (2, u "TAU"), (2, u "DEGREES_TO_RADIANS"), (0, u "RADIANS_TO_DEGREES")] 94

def k8m0 : Method := { name := "<init>", desc := "()V", sig := { parameters := [], returnType := none }, accessFlags := 2, code := none }
def k8c1 : Code := { maxStack := 2, maxLocals := 2, code := jdk_29_method_65_code, exceptionTable := #[], attributes := #[] }
def k8m1 : Method := { name := "max", desc := "(II)I", sig := { parameters := [.int, .int], returnType := some .int }, accessFlags := 9, code := some k8c1 }
def k8c2 : Code := { maxStack := 4, maxLocals := 4, code := jdk_29_method_66_code, exceptionTable := #[], attributes := #[] }
def k8m2 : Method := { name := "max", desc := "(JJ)J", sig := { parameters := [.long, .long], returnType := some .long }, accessFlags := 9, code := some k8c2 }
def k8c3 : Code := { maxStack := 2, maxLocals := 2, code := jdk_29_method_69_code, exceptionTable := #[], attributes := #[] }
def k8m3 : Method := { name := "min", desc := "(II)I", sig := { parameters := [.int, .int], returnType := some .int }, accessFlags := 9, code := some k8c3 }
def k8c4 : Code := { maxStack := 4, maxLocals := 4, code := jdk_29_method_70_code, exceptionTable := #[], attributes := #[] }
def k8m4 : Method := { name := "min", desc := "(JJ)J", sig := { parameters := [.long, .long], returnType := some .long }, accessFlags := 9, code := some k8c4 }
/-- java/lang/Math -/
def k8 : Class := { plain "java/lang/Math" (some 0) with
  accessFlags := 49
  interfaces := #[]
  cf := some (fileOf pool8 1 #[.nestMembers #[98]] #[{ accessFlags := 2, nameIndex := 7, descriptorIndex := 8, attributes := #[] }, { accessFlags := 9, nameIndex := 198, descriptorIndex := 335, attributes := #[] }, { accessFlags := 9, nameIndex := 198, descriptorIndex := 121, attributes := #[] }, { accessFlags := 9, nameIndex := 201, descriptorIndex := 335, attributes := #[] }, { accessFlags := 9, nameIndex := 201, descriptorIndex := 121, attributes := #[] }] 49 4 #[] #[{ accessFlags := 25, nameIndex := 354, descriptorIndex := 339, attributes := #[] }, { accessFlags := 25, nameIndex := 358, descriptorIndex := 339, attributes := #[] }, { accessFlags := 25, nameIndex := 361, descriptorIndex := 339, attributes := #[] }, { accessFlags := 26, nameIndex := 364, descriptorIndex := 339, attributes := #[] }, { accessFlags := 26, nameIndex := 365, descriptorIndex := 339, attributes := #[] }, { accessFlags := 26, nameIndex := 172, descriptorIndex := 173, attributes := #[] }, { accessFlags := 26, nameIndex := 176, descriptorIndex := 173, attributes := #[] }, { accessFlags := 8, nameIndex := 344, descriptorIndex := 339, attributes := #[] }, { accessFlags := 8, nameIndex := 338, descriptorIndex := 339, attributes := #[] }, { accessFlags := 4120, nameIndex := 245, descriptorIndex := 246, attributes := #[] }])
  fields := #[{ name := "E", type := .double, accessFlags := 25, slot := 0, constantValue := 0 }, { name := "PI", type := .double, accessFlags := 25, slot := 1, constantValue := 0 }, { name := "TAU", type := .double, accessFlags := 25, slot := 2, constantValue := 0 }, { name := "DEGREES_TO_RADIANS", type := .double, accessFlags := 26, slot := 3, constantValue := 0 }, { name := "RADIANS_TO_DEGREES", type := .double, accessFlags := 26, slot := 4, constantValue := 0 }, { name := "negativeZeroFloatBits", type := .long, accessFlags := 26, slot := 5, constantValue := 0 }, { name := "negativeZeroDoubleBits", type := .long, accessFlags := 26, slot := 6, constantValue := 0 }, { name := "twoToTheDoubleScaleUp", type := .double, accessFlags := 8, slot := 7, constantValue := 0 }, { name := "twoToTheDoubleScaleDown", type := .double, accessFlags := 8, slot := 8, constantValue := 0 }, { name := "$assertionsDisabled", type := .boolean, accessFlags := 4120, slot := 9, constantValue := 0 }]
  methods := #[k8m0, k8m1, k8m2, k8m3, k8m4]
  instanceTypes := #[]
  staticTypes := #[.double, .double, .double, .double, .double, .long, .long, .double, .double, .boolean]
  resolved := Array.replicate 460 none
  statics := none }

def pool9 : Array CpInfo := pool [(2, .class_ 4), (1, u "java/lang/Object"), (0, u "<init>"), (0, u "()V"), (7, .class_ 16), (1, u "java/util/Arrays"), (57, .class_ 76), (1, u "java/util/Arrays$NaturalOrder"), (36, .class_ 115), (1, u "java/util/Arrays$LegacyMergeSort"), (1, u "Z"), (32, .methodref 151 152), (0, .class_ 153), (0, .nameAndType 154 155), (0, u "java/lang/System"), (0, u "arraycopy"), (0, u "(Ljava/lang/Object;ILjava/lang/Object;II)V"), (146, u "copyOf"), (1, .methodref 305 306), (0, .class_ 307), (0, .nameAndType 308 309), (0, u "java/lang/Math"), (0, u "min"), (0, u "(II)I"), (65, .class_ 376), (0, u "java/util/Arrays$ArrayList"), (68, u "$assertionsDisabled"), (269, u "MIN_ARRAY_SORT_GRAN"), (0, u "I"), (2, u "INSERTIONSORT_THRESHOLD"), (149, u "([BI)[B"), (1, u "([II)[I"), (103, .class_ 976), (0, u "java/util/Arrays$ArrayItr")] 52

def k9m0 : Method := { name := "<init>", desc := "()V", sig := { parameters := [], returnType := none }, accessFlags := 2, code := none }
def k9c1 : Code := { maxStack := 6, maxLocals := 3, code := jdk_65_method_121_code, exceptionTable := #[], attributes := #[] }
def k9m1 : Method := { name := "copyOf", desc := "([BI)[B", sig := { parameters := [(.array .byte), .int], returnType := some (.array .byte) }, accessFlags := 9, code := some k9c1 }
def k9c2 : Code := { maxStack := 6, maxLocals := 3, code := jdk_65_method_123_code, exceptionTable := #[], attributes := #[] }
def k9m2 : Method := { name := "copyOf", desc := "([II)[I", sig := { parameters := [(.array .int), .int], returnType := some (.array .int) }, accessFlags := 9, code := some k9c2 }
/-- java/util/Arrays -/
def k9 : Class := { plain "java/util/Arrays" (some 0) with
  accessFlags := 49
  interfaces := #[]
  cf := some (fileOf pool9 14 #[.nestMembers #[975, 375, 113, 74]] #[{ accessFlags := 2, nameIndex := 5, descriptorIndex := 6, attributes := #[] }, { accessFlags := 9, nameIndex := 302, descriptorIndex := 869, attributes := #[] }, { accessFlags := 9, nameIndex := 302, descriptorIndex := 871, attributes := #[] }] 49 2 #[] #[{ accessFlags := 26, nameIndex := 715, descriptorIndex := 716, attributes := #[] }, { accessFlags := 26, nameIndex := 719, descriptorIndex := 716, attributes := #[] }, { accessFlags := 4120, nameIndex := 445, descriptorIndex := 117, attributes := #[] }])
  fields := #[{ name := "MIN_ARRAY_SORT_GRAN", type := .int, accessFlags := 26, slot := 0, constantValue := 0 }, { name := "INSERTIONSORT_THRESHOLD", type := .int, accessFlags := 26, slot := 1, constantValue := 0 }, { name := "$assertionsDisabled", type := .boolean, accessFlags := 4120, slot := 2, constantValue := 0 }]
  methods := #[k9m0, k9m1, k9m2]
  instanceTypes := #[]
  staticTypes := #[.int, .int, .boolean]
  resolved := Array.replicate 1029 none
  statics := none }

def pool10 : Array CpInfo := pool [(2, .class_ 4), (1, u "java/lang/Object"), (0, u "<init>"), (0, u "()V"), (1, .class_ 10), (1, u "java/lang/System"), (0, u "allowSecurityManager"), (0, u "I"), (16, u "cons"), (0, u "Ljava/io/Console;"), (77, .class_ 110), (1, u "java/lang/System$CallersHolder"), (43, u "initialErrStream"), (0, u "Ljava/io/PrintStream;"), (19, u "security"), (0, u "Ljava/lang/SecurityManager;"), (31, .class_ 209), (0, u "java/lang/System$1"), (7, u "props"), (0, u "Ljava/util/Properties;"), (2, u "lineSeparator"), (0, u "Ljava/lang/String;"), (96, .class_ 321), (1, u "java/lang/System$LoggerFinder"), (5, .class_ 328), (0, u "java/lang/System$Logger"), (67, u "err"), (2, u "out"), (91, u "notSupportedJnuEncoding"), (15, u "in"), (17, u "initialIn"), (0, u "Ljava/io/InputStream;"), (35, u "bootLayer"), (0, u "Ljava/lang/ModuleLayer;"), (99, .class_ 664), (0, u "java/lang/System$2"), (9, u "NEVER"), (2, u "MAYBE"), (49, u "arraycopy"), (0, u "(Ljava/lang/Object;ILjava/lang/Object;II)V"), (72, .class_ 802), (0, u "java/lang/System$Logger$Level")] 31

def k10m0 : Method := { name := "<init>", desc := "()V", sig := { parameters := [], returnType := none }, accessFlags := 2, code := none }
def k10m1 : Method := { name := "arraycopy", desc := "(Ljava/lang/Object;ILjava/lang/Object;II)V", sig := { parameters := [(.object "java/lang/Object"), .int, (.object "java/lang/Object"), .int, .int], returnType := none }, accessFlags := 265, code := none }
/-- java/lang/System -/
def k10 : Class := { plain "java/lang/System" (some 0) with
  accessFlags := 49
  interfaces := #[]
  cf := some (fileOf pool10 8 #[.nestMembers #[319, 327, 801, 108, 663, 208]] #[{ accessFlags := 2, nameIndex := 5, descriptorIndex := 6, attributes := #[] }, { accessFlags := 265, nameIndex := 727, descriptorIndex := 728, attributes := #[] }] 49 2 #[] #[{ accessFlags := 25, nameIndex := 507, descriptorIndex := 526, attributes := #[] }, { accessFlags := 25, nameIndex := 399, descriptorIndex := 155, attributes := #[] }, { accessFlags := 25, nameIndex := 396, descriptorIndex := 155, attributes := #[] }, { accessFlags := 10, nameIndex := 525, descriptorIndex := 526, attributes := #[] }, { accessFlags := 26, nameIndex := 674, descriptorIndex := 12, attributes := #[] }, { accessFlags := 26, nameIndex := 677, descriptorIndex := 12, attributes := #[] }, { accessFlags := 10, nameIndex := 11, descriptorIndex := 12, attributes := #[] }, { accessFlags := 74, nameIndex := 175, descriptorIndex := 176, attributes := #[] }, { accessFlags := 10, nameIndex := 491, descriptorIndex := 222, attributes := #[] }, { accessFlags := 74, nameIndex := 29, descriptorIndex := 30, attributes := #[] }, { accessFlags := 74, nameIndex := 154, descriptorIndex := 155, attributes := #[] }, { accessFlags := 10, nameIndex := 217, descriptorIndex := 218, attributes := #[] }, { accessFlags := 10, nameIndex := 221, descriptorIndex := 222, attributes := #[] }, { accessFlags := 8, nameIndex := 562, descriptorIndex := 563, attributes := #[] }])
  fields := #[{ name := "in", type := (.object "java/io/InputStream"), accessFlags := 25, slot := 0, constantValue := 0 }, { name := "out", type := (.object "java/io/PrintStream"), accessFlags := 25, slot := 1, constantValue := 0 }, { name := "err", type := (.object "java/io/PrintStream"), accessFlags := 25, slot := 2, constantValue := 0 }, { name := "initialIn", type := (.object "java/io/InputStream"), accessFlags := 10, slot := 3, constantValue := 0 }, { name := "NEVER", type := .int, accessFlags := 26, slot := 4, constantValue := 0 }, { name := "MAYBE", type := .int, accessFlags := 26, slot := 5, constantValue := 0 }, { name := "allowSecurityManager", type := .int, accessFlags := 10, slot := 6, constantValue := 0 }, { name := "security", type := (.object "java/lang/SecurityManager"), accessFlags := 74, slot := 7, constantValue := 0 }, { name := "notSupportedJnuEncoding", type := (.object "java/lang/String"), accessFlags := 10, slot := 8, constantValue := 0 }, { name := "cons", type := (.object "java/io/Console"), accessFlags := 74, slot := 9, constantValue := 0 }, { name := "initialErrStream", type := (.object "java/io/PrintStream"), accessFlags := 74, slot := 10, constantValue := 0 }, { name := "props", type := (.object "java/util/Properties"), accessFlags := 10, slot := 11, constantValue := 0 }, { name := "lineSeparator", type := (.object "java/lang/String"), accessFlags := 10, slot := 12, constantValue := 0 }, { name := "bootLayer", type := (.object "java/lang/ModuleLayer"), accessFlags := 8, slot := 13, constantValue := 0 }]
  methods := #[k10m0, k10m1]
  instanceTypes := #[]
  staticTypes := #[(.object "java/io/InputStream"), (.object "java/io/PrintStream"), (.object "java/io/PrintStream"), (.object "java/io/InputStream"), .int, .int, .int, (.object "java/lang/SecurityManager"), (.object "java/lang/String"), (.object "java/io/Console"), (.object "java/io/PrintStream"), (.object "java/util/Properties"), (.object "java/lang/String"), (.object "java/lang/ModuleLayer")]
  resolved := Array.replicate 834 none
  statics := none }

def pool11 : Array CpInfo := pool [(1, u "java/lang/Cloneable"), (0, .class_ 1), (0, u "java/lang/Object"), (0, .class_ 3)] 3

/-- java/lang/Cloneable -/
def k11 : Class := { plain "java/lang/Cloneable" (some 0) with
  accessFlags := 1537
  interfaces := #[]
  cf := some (fileOf pool11 2 #[] #[] 1537 4 #[] #[])
  fields := #[]
  methods := #[]
  instanceTypes := #[]
  staticTypes := #[]
  resolved := Array.replicate 8 none
  statics := none }

/-- the primitive byte -/
def k12 : Class := { plain "byte" none with kind := .primitive 'B', accessFlags := 0x411 }
/-- [B -/
def k13 : Class := { plain "[B" (some 0) with kind := .array 12 .byte, interfaces := #[11, 4], accessFlags := 1041 }

/-- the primitive int -/
def k14 : Class := { plain "int" none with kind := .primitive 'I', accessFlags := 0x411 }
/-- [I -/
def k15 : Class := { plain "[I" (some 0) with kind := .array 14 .int, interfaces := #[11, 4], accessFlags := 1041 }

def heap : Heap := #[{ cls := 6, slots := #[.ref 1, .ref 2, .null], vm := .statics 6 },
  { cls := 6, slots := #[.null, .int 0, .int 0, .null, .null], vm := .none },
  { cls := 6, slots := #[.null, .int 1, .int 0, .null, .null], vm := .none }]
def classes : Array Class := #[k0, k1, k2, k3, k4, k5, k6, k7, k8, k9, k10, k11, k12, k13, k14, k15]
def interned : List (Array UInt16 × Addr) := []
def slotsUsed : Nat := 13
def theMethod : MethodId := ⟨1, 1⟩
def args0 : Array Value := #[.int 5, .int 5, .int 5, .int 5, .long 5]
def aboutOver (below : List Frame) : State where
  vm := { classes := classes, interned := interned.toArray }
  heap := heap
  slotsUsed := slotsUsed
  threads := #[{ frames := .invoking theMethod args0 :: below }]
def below0 : List Frame := [.native { method := ⟨0, 0⟩, args := #[] }]
def about1 : State := aboutOver below0
def p0 : Program := .bare "" "" ""
def e0 : Env := launch0.env 0 0 0
theorem w_frames : about1.frames = Frame.invoking theMethod args0 :: below0 := rfl
set_option maxRecDepth 65536 in
theorem w_args : argsFit about1.vm theMethod args0 = true := by decide +kernel
set_option maxRecDepth 65536 in
theorem w_heap : heapFits about1 = true := by decide +kernel
set_option maxRecDepth 65536 in
theorem w_runnable : about1.curStatus? = some .runnable := by decide +kernel
set_option maxRecDepth 65536 in
theorem w_alone : about1.alone = true := by decide +kernel
set_option maxRecDepth 65536 in
theorem w_named : about1.methodNamed? x = some theMethod := by decide +kernel
set_option maxRecDepth 65536 in
theorem w_hears : about1.hears theMethod below0 = true := by decide +kernel
set_option maxRecDepth 65536 in
theorem w_ripe : about1.ripe theMethod args0 below0 = true := by decide +kernel
theorem w_running : about1.status = .running := rfl
set_option maxRecDepth 65536 in
theorem w_room : about1.hasRoom e0.platform room_1 = true :=
  launch0.hasRoom_least _ room_1 (by decide +kernel) (by decide +kernel) (by decide +kernel) (by decide +kernel) (by decide +kernel) (by decide +kernel)
theorem allAtoms_all (ts : List Jvm.Cond) (a : Array Jvm.Value) (st : Jvm.State) : (allAtoms ts).before a st = ts.all (fun c => c.before a st) := by
  induction ts with
  | nil => rfl
  | cons c t ih =>
    show (Jvm.Cond.and c (allAtoms t)).before a st = _
    rw [Jvm.Cond.before_and, ih, List.all_cons]
def words1 : List Jvm.Cond := Jvm.Cond.code x code maxLocals ret :: tables_1
/-- a 'code' word, met by the world's own term for the bytes: nothing is compared byte by byte -/
theorem code_word {y : MethodName} {bytes : ByteArray} {mx : Nat} {rt : Option FieldType} {a : Array Value} {s : State} {m : MethodId} {meth : Method} {c : Code} (h1 : s.methodNamed? y = some m) (h2 : s.vm.method? m = some meth) (h3 : meth.code = some c) (h4 : c.code = bytes)
    (h5 : (c.maxLocals == mx && c.exceptionTable.isEmpty && decide (c.maxStack ≤ mostOperands) && decide (meth.sig.returnType = rt) && !meth.locks && decide (parseMethodDescriptor y.desc = some meth.sig)) = true) : (Jvm.Cond.code y bytes mx rt).before a s = true := by
  simp only [Bool.and_eq_true, beq_iff_eq, Bool.not_eq_true', decide_eq_true_eq] at h5
  obtain ⟨⟨⟨⟨⟨g1, g2⟩, g3⟩, g4⟩, g5⟩, g6⟩ := h5
  simp [Cond.before, Cond.holds, Cond.value, h1, h2, h3, h4, g1, g2, g3, g4, g5, g6]
def isCode : Jvm.Cond → Bool
  | .code _ _ _ _ => true
  | _ => false
theorem all_split {L : List Jvm.Cond} {P : Jvm.Cond → Bool} (h1 : L.all (fun c => isCode c || P c) = true) (h2 : ∀ c ∈ L.filter isCode, P c = true) : L.all P = true := by
  refine List.all_eq_true.mpr fun c hc => ?_
  have h := List.all_eq_true.mp h1 c hc
  rcases Bool.eq_false_or_eq_true (isCode c) with hi | hi
  · exact h2 c (List.mem_filter.mpr ⟨hc, hi⟩)
  · simpa [hi] using h
set_option maxRecDepth 65536 in
theorem w_c0 : (Jvm.Cond.code x code maxLocals ret).before args0 about1 = true := code_word (m := ⟨1, 1⟩) (meth := k1m1) (c := k1c1) (by decide +kernel) rfl rfl rfl (by decide +kernel)
set_option maxRecDepth 65536 in
theorem w_c1 : (Jvm.Cond.code ({ cls := "com/example/tallyfold/tallyfold/EntryLines", name := "<init>", desc := "()V" } : Jvm.MethodName) prog_24_method_1_code (1 : Nat) (Option.none : Option Jvm.ClassFile.FieldType)).before args0 about1 = true := code_word (m := ⟨7, 0⟩) (meth := k7m0) (c := k7c0) (by decide +kernel) rfl rfl rfl (by decide +kernel)
set_option maxRecDepth 65536 in
theorem w_c2 : (Jvm.Cond.code ({ cls := "java/lang/Object", name := "<init>", desc := "()V" } : Jvm.MethodName) object_method_1_code (1 : Nat) (Option.none : Option Jvm.ClassFile.FieldType)).before args0 about1 = true := code_word (m := ⟨0, 0⟩) (meth := k0m0) (c := k0c0) (by decide +kernel) rfl rfl rfl (by decide +kernel)
set_option maxRecDepth 65536 in
theorem w_c3 : (Jvm.Cond.code ({ cls := "com/example/tallyfold/tallyfold/EntryLines", name := "keep", desc := "(I[BIILcom/example/tallyfold/tallyfold/Entry$Kind;J)Z" } : Jvm.MethodName) prog_24_method_2_code (13 : Nat) (Option.some Jvm.ClassFile.FieldType.boolean)).before args0 about1 = true := code_word (m := ⟨7, 1⟩) (meth := k7m1) (c := k7c1) (by decide +kernel) rfl rfl rfl (by decide +kernel)
set_option maxRecDepth 65536 in
theorem w_c4 : (Jvm.Cond.code ({ cls := "java/lang/Math", name := "max", desc := "(JJ)J" } : Jvm.MethodName) jdk_29_method_66_code (4 : Nat) (Option.some Jvm.ClassFile.FieldType.long)).before args0 about1 = true := code_word (m := ⟨8, 2⟩) (meth := k8m2) (c := k8c2) (by decide +kernel) rfl rfl rfl (by decide +kernel)
set_option maxRecDepth 65536 in
theorem w_c5 : (Jvm.Cond.code ({ cls := "java/lang/Math", name := "min", desc := "(JJ)J" } : Jvm.MethodName) jdk_29_method_70_code (4 : Nat) (Option.some Jvm.ClassFile.FieldType.long)).before args0 about1 = true := code_word (m := ⟨8, 4⟩) (meth := k8m4) (c := k8c4) (by decide +kernel) rfl rfl rfl (by decide +kernel)
set_option maxRecDepth 65536 in
theorem w_c6 : (Jvm.Cond.code ({ cls := "java/util/Arrays", name := "copyOf", desc := "([BI)[B" } : Jvm.MethodName) jdk_65_method_121_code (3 : Nat) (Option.some (Jvm.ClassFile.FieldType.array Jvm.ClassFile.FieldType.byte))).before args0 about1 = true := code_word (m := ⟨9, 1⟩) (meth := k9m1) (c := k9c1) (by decide +kernel) rfl rfl rfl (by decide +kernel)
set_option maxRecDepth 65536 in
theorem w_c7 : (Jvm.Cond.code ({ cls := "java/lang/Math", name := "min", desc := "(II)I" } : Jvm.MethodName) jdk_29_method_69_code (2 : Nat) (Option.some Jvm.ClassFile.FieldType.int)).before args0 about1 = true := code_word (m := ⟨8, 3⟩) (meth := k8m3) (c := k8c3) (by decide +kernel) rfl rfl rfl (by decide +kernel)
set_option maxRecDepth 65536 in
theorem w_c8 : (Jvm.Cond.code ({ cls := "java/lang/Math", name := "max", desc := "(II)I" } : Jvm.MethodName) jdk_29_method_65_code (2 : Nat) (Option.some Jvm.ClassFile.FieldType.int)).before args0 about1 = true := code_word (m := ⟨8, 1⟩) (meth := k8m1) (c := k8c1) (by decide +kernel) rfl rfl rfl (by decide +kernel)
set_option maxRecDepth 65536 in
theorem w_c9 : (Jvm.Cond.code ({ cls := "java/util/Arrays", name := "copyOf", desc := "([II)[I" } : Jvm.MethodName) jdk_65_method_123_code (3 : Nat) (Option.some (Jvm.ClassFile.FieldType.array Jvm.ClassFile.FieldType.int))).before args0 about1 = true := code_word (m := ⟨9, 2⟩) (meth := k9m2) (c := k9c2) (by decide +kernel) rfl rfl rfl (by decide +kernel)
set_option maxRecDepth 65536 in
theorem w_c10 : (Jvm.Cond.code ({ cls := "com/example/tallyfold/tallyfold/EntryLines", name := "remove", desc := "(ILcom/example/tallyfold/tallyfold/Entry$Kind;J)V" } : Jvm.MethodName) prog_24_method_9_code (5 : Nat) (Option.none : Option Jvm.ClassFile.FieldType)).before args0 about1 = true := code_word (m := ⟨7, 3⟩) (meth := k7m3) (c := k7c3) (by decide +kernel) rfl rfl rfl (by decide +kernel)
set_option maxRecDepth 65536 in
theorem w_c11 : (Jvm.Cond.code ({ cls := "com/example/tallyfold/tallyfold/EntryLines", name := "first", desc := "()I" } : Jvm.MethodName) prog_24_method_5_code (1 : Nat) (Option.some Jvm.ClassFile.FieldType.int)).before args0 about1 = true := code_word (m := ⟨7, 2⟩) (meth := k7m2) (c := k7c2) (by decide +kernel) rfl rfl rfl (by decide +kernel)
def codes1 : List Jvm.Cond := [Jvm.Cond.code x code maxLocals ret, Jvm.Cond.code ({ cls := "com/example/tallyfold/tallyfold/EntryLines", name := "<init>", desc := "()V" } : Jvm.MethodName) prog_24_method_1_code (1 : Nat) (Option.none : Option Jvm.ClassFile.FieldType), Jvm.Cond.code ({ cls := "java/lang/Object", name := "<init>", desc := "()V" } : Jvm.MethodName) object_method_1_code (1 : Nat) (Option.none : Option Jvm.ClassFile.FieldType), Jvm.Cond.code ({ cls := "com/example/tallyfold/tallyfold/EntryLines", name := "keep", desc := "(I[BIILcom/example/tallyfold/tallyfold/Entry$Kind;J)Z" } : Jvm.MethodName) prog_24_method_2_code (13 : Nat) (Option.some Jvm.ClassFile.FieldType.boolean), Jvm.Cond.code ({ cls := "java/lang/Math", name := "max", desc := "(JJ)J" } : Jvm.MethodName) jdk_29_method_66_code (4 : Nat) (Option.some Jvm.ClassFile.FieldType.long), Jvm.Cond.code ({ cls := "java/lang/Math", name := "min", desc := "(JJ)J" } : Jvm.MethodName) jdk_29_method_70_code (4 : Nat) (Option.some Jvm.ClassFile.FieldType.long), Jvm.Cond.code ({ cls := "java/util/Arrays", name := "copyOf", desc := "([BI)[B" } : Jvm.MethodName) jdk_65_method_121_code (3 : Nat) (Option.some (Jvm.ClassFile.FieldType.array Jvm.ClassFile.FieldType.byte)), Jvm.Cond.code ({ cls := "java/lang/Math", name := "min", desc := "(II)I" } : Jvm.MethodName) jdk_29_method_69_code (2 : Nat) (Option.some Jvm.ClassFile.FieldType.int), Jvm.Cond.code ({ cls := "java/lang/Math", name := "max", desc := "(II)I" } : Jvm.MethodName) jdk_29_method_65_code (2 : Nat) (Option.some Jvm.ClassFile.FieldType.int), Jvm.Cond.code ({ cls := "java/util/Arrays", name := "copyOf", desc := "([II)[I" } : Jvm.MethodName) jdk_65_method_123_code (3 : Nat) (Option.some (Jvm.ClassFile.FieldType.array Jvm.ClassFile.FieldType.int)), Jvm.Cond.code ({ cls := "com/example/tallyfold/tallyfold/EntryLines", name := "remove", desc := "(ILcom/example/tallyfold/tallyfold/Entry$Kind;J)V" } : Jvm.MethodName) prog_24_method_9_code (5 : Nat) (Option.none : Option Jvm.ClassFile.FieldType), Jvm.Cond.code ({ cls := "com/example/tallyfold/tallyfold/EntryLines", name := "first", desc := "()I" } : Jvm.MethodName) prog_24_method_5_code (1 : Nat) (Option.some Jvm.ClassFile.FieldType.int)]
set_option maxRecDepth 65536 in
theorem codes_eq : words1.filter isCode = codes1 := rfl
theorem w_codes : ∀ c ∈ words1.filter isCode, c.before args0 about1 = true := by
  rw [codes_eq]
  intro c hc
  simp only [codes1, List.mem_cons, List.not_mem_nil, or_false] at hc
  rcases hc with rfl | rfl | rfl | rfl | rfl | rfl | rfl | rfl | rfl | rfl | rfl | rfl
  · exact w_c0
  · exact w_c1
  · exact w_c2
  · exact w_c3
  · exact w_c4
  · exact w_c5
  · exact w_c6
  · exact w_c7
  · exact w_c8
  · exact w_c9
  · exact w_c10
  · exact w_c11
set_option maxRecDepth 65536 in
theorem w_t1 : (words1.take 24).all (fun c => isCode c || c.before args0 about1) = true := by decide +kernel
set_option maxRecDepth 65536 in
theorem w_t2 : ((words1.drop 24).take 24).all (fun c => isCode c || c.before args0 about1) = true := by decide +kernel
set_option maxRecDepth 65536 in
theorem w_t3 : (((words1.drop 24).drop 24).take 24).all (fun c => isCode c || c.before args0 about1) = true := by decide +kernel
set_option maxRecDepth 65536 in
theorem w_t4 : (((words1.drop 24).drop 24).drop 24).all (fun c => isCode c || c.before args0 about1) = true := by decide +kernel
theorem w_tables : (allAtoms (Jvm.Cond.code x code maxLocals ret :: tables_1)).before args0 about1 = true := by
  rw [allAtoms_all]
  show words1.all (fun c => c.before args0 about1) = true
  refine all_split ?_ w_codes
  rw [← List.take_append_drop 24 words1, List.all_append, w_t1, ← List.take_append_drop 24 (words1.drop 24), List.all_append, w_t2, ← List.take_append_drop 24 ((words1.drop 24).drop 24), List.all_append, w_t3, w_t4]
  rfl
set_option maxRecDepth 65536 in
theorem w_case : (Jvm.Cond.and given_1 narrow_1).before args0 about1 = true := by decide +kernel
theorem w_applies : (headSpec (Jvm.Cond.code x code maxLocals ret :: tables_1) room_1).applies x e0.platform about1 = true :=
  (Spec.applies_iff w_frames).mpr ⟨w_running, w_runnable, w_alone, w_named, w_hears, w_ripe, w_room, w_tables⟩
theorem atStart : AtStart classFile x code maxLocals ret World_1 tables_1 room_1 Calls_1 rest_1 Pre_1 launch0 p0 e0 about1 theMethod args0 below0 :=
  ⟨lists_1, trivial, launch0.admits_env _ _ _, launch0.least_env, fairChoices_fair.cas, fairChoices_fair.clock, w_frames, w_args, w_heap, w_applies, trivial, trivial, w_case⟩
end start1
theorem witness_1 : WitnessClaimed_1 := ⟨start1.p0, start1.e0, start1.about1, start1.theMethod, start1.args0, start1.below0, start1.atStart⟩
end Jvm.Pilot.@@N@@

import JvmDerived
import JvmDerived.Pilot.@@N@@Statement
import JvmDerived.Pilot.@@N@@Code
set_option linter.unusedVariables false
set_option linter.unusedSimpArgs false
namespace Jvm.WK
open Jvm Sem ClassFile Op Lib Jvm.Free Jvm.Stand Jvm.LawKit Jvm.RoadKit
/-- the fixed surroundings of a walk: program, launch, environment, first state, method, arguments, frames below, method record, code record -/
abbrev Cx := Program × Launch × Env × State × MethodId × Array Value × List Frame × Method × Code
/-- FROM HERE THE BODY RUNS TO ITS RETURN, AND WHAT IT LEAVES MEETS Q: h the heap here, pc, Ls, st the top frame; cl, sl: what was made so far; only cells from n0 on are written. -/
def WPG (C : Cx) (Z : State) (code : ByteArray) (ml : Nat) (own : String) (rt : Option FieldType) (nm : String) (R : Room) (n0 : Nat) (G : State → Option Value → List Loc → Prop) (cl sl : Nat) (h : Heap) (pc : Nat) (Ls : Array Slot) (st : List Value) : Prop :=
  C.1.tables.exec = Jvm.exec → C.2.2.2.2.2.2.2.2.code = code → C.2.2.2.2.2.2.2.2.maxLocals = ml → C.2.2.2.1.vm.findClass own = some C.2.2.2.2.1.cls → Z.Warmed39 C.2.2.2.1.vm → C.2.2.2.2.2.2.2.1.sig.returnType = rt → C.2.2.2.2.2.2.2.1.locks = false → C.2.2.2.2.2.2.2.1.name = nm →
  ∀ (T : State) (locs : List Loc), Stand C.1 C.2.1 C.2.2.1 R C.2.2.2.1 C.2.2.2.2.1 C.2.2.2.2.2.1 C.2.2.2.2.2.2.1 C.2.2.2.2.2.2.2.1 C.2.2.2.2.2.2.2.2 T locs cl sl → T.heap = h → Fr n0 locs →
    ∃ (s₂ : State) (v : Option Value) (L : List Loc), Steps C.1.tables C.2.2.1 C.2.2.2.2.2.2.1 (T.setTop (mkF C.2.2.2.2.1 pc Ls st)) s₂ ∧ s₂.status = .running ∧ Ended s₂ C.2.2.2.2.2.2.1 (.returned v) ∧ G s₂ v L
/-- the plain end: Q of what it leaves; the tables warmer, the frame kept -/
abbrev EndF (C : Cx) (R : Room) (n0 : Nat) (Q : Option Value → Heap → Prop) : State → Option Value → List Loc → Prop := fun s₂ v L => Q v s₂.heap ∧ Fr n0 L ∧ FrameEnd C.2.2.2.1 (.returned v) s₂ L R.cells R.slots
abbrev WP (C : Cx) (Z : State) (code : ByteArray) (ml : Nat) (own : String) (rt : Option FieldType) (nm : String) (R : Room) (n0 : Nat) (Q : Option Value → Heap → Prop) (cl sl : Nat) (h : Heap) (pc : Nat) (Ls : Array Slot) (st : List Value) : Prop :=
  WPG C Z code ml own rt nm R n0 (EndF C R n0 Q) cl sl h pc Ls st
/-- WHAT A METHOD DOES FROM THE HEAP h0 WITH THE ARGUMENTS a -/
def Does (l : Launch) (Z : State) (y : MethodName) (code : ByteArray) (ml : Nat) (rt : Option FieldType) (R : Room) (n0 : Nat) (as' : Array Value) (h0 : Heap) (Q : Option Value → Heap → Prop) : Prop :=
  ∀ ws : List Jvm.Cond, MetFree l y (head1 (Jvm.Cond.code y code ml rt :: ws) R) (fun a U => a = as' ∧ Z.Warmed39 U.vm ∧ U.heap = h0) (fun _ _ _ _ _ => True)
    (fun _ U o U' => ∃ v L, o = .returned v ∧ (Q v U'.heap ∧ Fr n0 L) ∧ FrameEnd U o U' L R.cells R.slots)
theorem Does.of_wp {l : Launch} {Z : State} {y : MethodName} {code : ByteArray} {ml : Nat} {rt : Option FieldType} {R : Room} {n0 : Nat} {as' : Array Value} {h0 : Heap} {Q : Option Value → Heap → Prop} (hpl : plainFor y = true) {Ls : Array Slot} (hef : ∀ m, entryFrame m as' ml = mkF m 0 Ls [])
    (hW : ∀ C : Cx, WP C Z code ml y.cls rt y.name R n0 Q 0 0 h0 0 Ls []) : Does l Z y code ml rt R n0 as' h0 Q := by
  intro ws
  refine MetFree.of_bodySF hpl hisR ?_
  intro p e s m args below meth c s₁ Bd hml0 hP hK
  obtain ⟨rfl, hZ, hh⟩ := hP
  have X0 : Stand p l e R s m args below meth c s₁ [] 0 0 := Stand.of_body Bd
  have e0 : s₁.heap = h0 := by rw [← hh, Bd.state]; rfl
  obtain ⟨s₂, v, L, h1, h2, h3, h4, h5, h6⟩ := hW (p, l, e, s, m, args, below, meth, c) Bd.exec Bd.bytes hml0 (findClass_of_methodNamed Bd.named) hZ Bd.returns Bd.notSynchronized (name_of_methodNamed Bd.named Bd.method).1 s₁ [] X0 e0 (Fr.nil n0)
  exact ⟨s₂, _, castTop (hef m) h1, h2, h3, v, L, rfl, ⟨h4, h5⟩, h6⟩
section Rules
variable {C : Cx} {Z : State} {code : ByteArray} {ml : Nat} {own : String} {rt : Option FieldType} {nm : String} {R : Room} {n0 : Nat} {Q : Option Value → Heap → Prop} {G : State → Option Value → List Loc → Prop} {cl sl : Nat} {h : Heap} {pc pc' : Nat} {Ls Ls' : Array Slot} {st st' : List Value} {a0 : Array Value}
theorem WPG.step {cl' sl' : Nat} {h' : Heap} (f : ∀ {p : Program} {l : Launch} {e : Env} {s : State} {m : MethodId} {args : Array Value} {below : List Frame} {meth : Method} {c : Code} {T : State} {locs : List Loc}, Stand p l e R s m args below meth c T locs cl sl → p.tables.exec = Jvm.exec → c.code = code → c.maxLocals = ml → s.vm.findClass own = some m.cls → Z.Warmed39 s.vm → meth.name = nm → T.heap = h → Fr n0 locs →
      ∃ T' locs', Stand p l e R s m args below meth c T' locs' cl' sl' ∧ T'.heap = h' ∧ Fr n0 locs' ∧ ∀ t, Steps p.tables e below (T'.setTop (mkF m pc' Ls' st')) t → Steps p.tables e below (T.setTop (mkF m pc Ls st)) t)
    (hr : WPG C Z code ml own rt nm R n0 G cl' sl' h' pc' Ls' st') : WPG C Z code ml own rt nm R n0 G cl sl h pc Ls st := by
  intro k1 k2 k3 k4 k5 k6 k7 k8 T locs X e N
  obtain ⟨T', locs', X', e', N', k⟩ := f X k1 k2 k3 k4 k5 k8 e N
  obtain ⟨s₂, v, L, h1, h2⟩ := hr k1 k2 k3 k4 k5 k6 k7 k8 T' locs' X' e' N'
  exact ⟨s₂, v, L, k _ h1, h2⟩
theorem WPG.pure (f : ∀ {p : Program} {l : Launch} {e : Env} {s : State} {m : MethodId} {args : Array Value} {below : List Frame} {meth : Method} {c : Code} {T : State} {locs : List Loc}, Stand p l e R s m args below meth c T locs cl sl → p.tables.exec = Jvm.exec → c.code = code → s.vm.findClass own = some m.cls → Z.Warmed39 s.vm → T.heap = h →
      ∀ t, Steps p.tables e below (T.setTop (mkF m pc' Ls' st')) t → Steps p.tables e below (T.setTop (mkF m pc Ls st)) t)
    (hr : WPG C Z code ml own rt nm R n0 G cl sl h pc' Ls' st') : WPG C Z code ml own rt nm R n0 G cl sl h pc Ls st :=
  WPG.step (fun X hx hc _ ho hZ _ e N => ⟨_, _, X, e, N, f X hx hc ho hZ e⟩) hr
/-- the heap's name may be turned -/
theorem WP.cast {h' : Heap} (e : h = h') (hr : WPG C Z code ml own rt nm R n0 G cl sl h' pc Ls st) : WPG C Z code ml own rt nm R n0 G cl sl h pc Ls st := e ▸ hr
theorem WP.castS (e : st = st') (hr : WPG C Z code ml own rt nm R n0 G cl sl h pc Ls st') : WPG C Z code ml own rt nm R n0 G cl sl h pc Ls st := e ▸ hr
theorem WP.castL (e : Ls = Ls') (hr : WPG C Z code ml own rt nm R n0 G cl sl h pc Ls' st) : WPG C Z code ml own rt nm R n0 G cl sl h pc Ls st := e ▸ hr
theorem WP.more {cl' sl' : Nat} (h1 : cl ≤ cl') (h2 : sl ≤ sl') (hr : WPG C Z code ml own rt nm R n0 G cl' sl' h pc Ls st) : WPG C Z code ml own rt nm R n0 G cl sl h pc Ls st := by
  intro k1 k2 k3 k4 k5 k6 k7 k8 T locs X e N
  exact hr k1 k2 k3 k4 k5 k6 k7 k8 T locs ⟨X.admits, X.cas, X.clock, X.frames, X.room, X.hears, X.method, X.code, X.here, X.tail, X.warmed, X.limits, X.bytes, X.same.mono h1 h2⟩ e N
theorem WP.iloadN {k : Fin 4} {v : Int32} (hd : decode code pc = .ok (.iload_n k, 1)) (hp : pc + 1 = pc') (hl : Ls[k.val]? = some (.val (.int v))) (hr : WPG C Z code ml own rt nm R n0 G cl sl h pc' Ls (.int v :: st)) : WPG C Z code ml own rt nm R n0 G cl sl h pc Ls st := by
  subst hp
  exact hr.pure fun X hx hby hown hZ eT t q => XS.iloadN X.here hx rfl (hb hby hd) hl q
theorem WP.iload {k : Nat} {v : Int32} (hd : decode code pc = .ok (.iload k, 2)) (hp : pc + 2 = pc') (hl : Ls[k]? = some (.val (.int v))) (hr : WPG C Z code ml own rt nm R n0 G cl sl h pc' Ls (.int v :: st)) : WPG C Z code ml own rt nm R n0 G cl sl h pc Ls st := by
  subst hp
  exact hr.pure fun X hx hby hown hZ eT t q => XS.iload X.here hx rfl (hb hby hd) hl q
theorem WP.lloadN {k : Fin 4} {v : Int64} (hd : decode code pc = .ok (.lload_n k, 1)) (hp : pc + 1 = pc') (hl : Ls[k.val]? = some (.val (.long v))) (hr : WPG C Z code ml own rt nm R n0 G cl sl h pc' Ls (.long v :: st)) : WPG C Z code ml own rt nm R n0 G cl sl h pc Ls st := by
  subst hp
  exact hr.pure fun X hx hby hown hZ eT t q => XS.lloadN X.here hx rfl (hb hby hd) hl q
theorem WP.lload {k : Nat} {v : Int64} (hd : decode code pc = .ok (.lload k, 2)) (hp : pc + 2 = pc') (hl : Ls[k]? = some (.val (.long v))) (hr : WPG C Z code ml own rt nm R n0 G cl sl h pc' Ls (.long v :: st)) : WPG C Z code ml own rt nm R n0 G cl sl h pc Ls st := by
  subst hp
  exact hr.pure fun X hx hby hown hZ eT t q => XS.lload X.here hx rfl (hb hby hd) hl q
theorem WP.dloadN {k : Fin 4} {v : UInt64} (hd : decode code pc = .ok (.dload_n k, 1)) (hp : pc + 1 = pc') (hl : Ls[k.val]? = some (.val (.double v))) (hr : WPG C Z code ml own rt nm R n0 G cl sl h pc' Ls (.double v :: st)) : WPG C Z code ml own rt nm R n0 G cl sl h pc Ls st := by
  subst hp
  exact hr.pure fun X hx hby hown hZ eT t q => XS.dloadN X.here hx rfl (hb hby hd) hl q
theorem WP.dload {k : Nat} {v : UInt64} (hd : decode code pc = .ok (.dload k, 2)) (hp : pc + 2 = pc') (hl : Ls[k]? = some (.val (.double v))) (hr : WPG C Z code ml own rt nm R n0 G cl sl h pc' Ls (.double v :: st)) : WPG C Z code ml own rt nm R n0 G cl sl h pc Ls st := by
  subst hp
  exact hr.pure fun X hx hby hown hZ eT t q => XS.dload X.here hx rfl (hb hby hd) hl q
theorem WP.aloadN {k : Fin 4} {v : Value} (hd : decode code pc = .ok (.aload_n k, 1)) (hp : pc + 1 = pc') (hl : Ls[k.val]? = some (.val v)) (hv : v.isRef = true) (hr : WPG C Z code ml own rt nm R n0 G cl sl h pc' Ls (v :: st)) : WPG C Z code ml own rt nm R n0 G cl sl h pc Ls st := by
  subst hp
  exact hr.pure fun X hx hby hown hZ eT t q => XS.aloadN X.here hx rfl (hb hby hd) hl hv q
theorem WP.aload {k : Nat} {v : Value} (hd : decode code pc = .ok (.aload k, 2)) (hp : pc + 2 = pc') (hl : Ls[k]? = some (.val v)) (hv : v.isRef = true) (hr : WPG C Z code ml own rt nm R n0 G cl sl h pc' Ls (v :: st)) : WPG C Z code ml own rt nm R n0 G cl sl h pc Ls st := by
  subst hp
  exact hr.pure fun X hx hby hown hZ eT t q => XS.aload X.here hx rfl (hb hby hd) hl hv q
theorem WP.istoreN {k : Fin 4} {v : Int32} (hd : decode code pc = .ok (.istore_n k, 1)) (hp : pc + 1 = pc') (hl : storeLocals Ls k.val (.int v) = some Ls') (hr : WPG C Z code ml own rt nm R n0 G cl sl h pc' Ls' st) : WPG C Z code ml own rt nm R n0 G cl sl h pc Ls (.int v :: st) := by
  subst hp
  exact hr.pure fun X hx hby hown hZ eT t q => XS.istoreN X.here hx rfl (hb hby hd) rfl hl q
theorem WP.istore {k : Nat} {v : Int32} (hd : decode code pc = .ok (.istore k, 2)) (hp : pc + 2 = pc') (hl : storeLocals Ls k (.int v) = some Ls') (hr : WPG C Z code ml own rt nm R n0 G cl sl h pc' Ls' st) : WPG C Z code ml own rt nm R n0 G cl sl h pc Ls (.int v :: st) := by
  subst hp
  exact hr.pure fun X hx hby hown hZ eT t q => XS.istore X.here hx rfl (hb hby hd) rfl hl q
theorem WP.lstoreN {k : Fin 4} {v : Int64} (hd : decode code pc = .ok (.lstore_n k, 1)) (hp : pc + 1 = pc') (hl : storeLocals Ls k.val (.long v) = some Ls') (hr : WPG C Z code ml own rt nm R n0 G cl sl h pc' Ls' st) : WPG C Z code ml own rt nm R n0 G cl sl h pc Ls (.long v :: st) := by
  subst hp
  exact hr.pure fun X hx hby hown hZ eT t q => XS.lstoreN X.here hx rfl (hb hby hd) rfl hl q
theorem WP.lstore {k : Nat} {v : Int64} (hd : decode code pc = .ok (.lstore k, 2)) (hp : pc + 2 = pc') (hl : storeLocals Ls k (.long v) = some Ls') (hr : WPG C Z code ml own rt nm R n0 G cl sl h pc' Ls' st) : WPG C Z code ml own rt nm R n0 G cl sl h pc Ls (.long v :: st) := by
  subst hp
  exact hr.pure fun X hx hby hown hZ eT t q => XS.lstore X.here hx rfl (hb hby hd) rfl hl q
theorem WP.dstoreN {k : Fin 4} {v : UInt64} (hd : decode code pc = .ok (.dstore_n k, 1)) (hp : pc + 1 = pc') (hl : storeLocals Ls k.val (.double v) = some Ls') (hr : WPG C Z code ml own rt nm R n0 G cl sl h pc' Ls' st) : WPG C Z code ml own rt nm R n0 G cl sl h pc Ls (.double v :: st) := by
  subst hp
  exact hr.pure fun X hx hby hown hZ eT t q => XS.dstoreN X.here hx rfl (hb hby hd) rfl hl q
theorem WP.dstore {k : Nat} {v : UInt64} (hd : decode code pc = .ok (.dstore k, 2)) (hp : pc + 2 = pc') (hl : storeLocals Ls k (.double v) = some Ls') (hr : WPG C Z code ml own rt nm R n0 G cl sl h pc' Ls' st) : WPG C Z code ml own rt nm R n0 G cl sl h pc Ls (.double v :: st) := by
  subst hp
  exact hr.pure fun X hx hby hown hZ eT t q => XS.dstore X.here hx rfl (hb hby hd) rfl hl q
theorem WP.astoreN {k : Fin 4} {v : Value} (hd : decode code pc = .ok (.astore_n k, 1)) (hp : pc + 1 = pc') (hv : v.isRef = true) (hl : storeLocals Ls k.val v = some Ls') (hr : WPG C Z code ml own rt nm R n0 G cl sl h pc' Ls' st) : WPG C Z code ml own rt nm R n0 G cl sl h pc Ls (v :: st) := by
  subst hp
  exact hr.pure fun X hx hby hown hZ eT t q => XS.astoreN X.here hx rfl (hb hby hd) rfl hv hl q
theorem WP.astore {k : Nat} {v : Value} (hd : decode code pc = .ok (.astore k, 2)) (hp : pc + 2 = pc') (hv : v.isRef = true) (hl : storeLocals Ls k v = some Ls') (hr : WPG C Z code ml own rt nm R n0 G cl sl h pc' Ls' st) : WPG C Z code ml own rt nm R n0 G cl sl h pc Ls (v :: st) := by
  subst hp
  exact hr.pure fun X hx hby hown hZ eT t q => XS.astore X.here hx rfl (hb hby hd) rfl hv hl q
theorem WP.iconst {i : Int} {z : Int32} (hd : decode code pc = .ok (.iconst i, 1)) (hp : pc + 1 = pc') (hz : Int32.ofInt i = z) (hr : WPG C Z code ml own rt nm R n0 G cl sl h pc' Ls (.int z :: st)) : WPG C Z code ml own rt nm R n0 G cl sl h pc Ls st := by
  subst hp
  subst hz
  exact hr.pure fun X hx hby hown hZ eT t q => XS.iconst X.here hx rfl (hb hby hd) q
theorem WP.bipush {i : Int} {z : Int32} (hd : decode code pc = .ok (.bipush i, 2)) (hp : pc + 2 = pc') (hz : (Int8.ofInt i).toInt32 = z) (hr : WPG C Z code ml own rt nm R n0 G cl sl h pc' Ls (.int z :: st)) : WPG C Z code ml own rt nm R n0 G cl sl h pc Ls st := by
  subst hp
  subst hz
  exact hr.pure fun X hx hby hown hZ eT t q => XS.bipush X.here hx rfl (hb hby hd) q
theorem WP.sipush {i : Int} {z : Int32} (hd : decode code pc = .ok (.sipush i, 3)) (hp : pc + 3 = pc') (hz : (Int16.ofInt i).toInt32 = z) (hr : WPG C Z code ml own rt nm R n0 G cl sl h pc' Ls (.int z :: st)) : WPG C Z code ml own rt nm R n0 G cl sl h pc Ls st := by
  subst hp
  subst hz
  exact hr.pure fun X hx hby hown hZ eT t q => XS.sipush X.here hx rfl (hb hby hd) q
theorem WP.lconst {k : Fin 2} {z : Int64} (hd : decode code pc = .ok (.lconst k, 1)) (hp : pc + 1 = pc') (hz : Int64.ofNat k = z) (hr : WPG C Z code ml own rt nm R n0 G cl sl h pc' Ls (.long z :: st)) : WPG C Z code ml own rt nm R n0 G cl sl h pc Ls st := by
  subst hp
  subst hz
  exact hr.pure fun X hx hby hown hZ eT t q => XS.lconst X.here hx rfl (hb hby hd) q
theorem WP.aconstNull  (hd : decode code pc = .ok (.aconst_null, 1)) (hp : pc + 1 = pc') (hr : WPG C Z code ml own rt nm R n0 G cl sl h pc' Ls (.null :: st)) : WPG C Z code ml own rt nm R n0 G cl sl h pc Ls st := by
  subst hp
  exact hr.pure fun X hx hby hown hZ eT t q => XS.aconstNull X.here hx rfl (hb hby hd) q
theorem WP.ldcI {i : Nat} {v : Int32} (hd : decode code pc = .ok (.ldc i, 2)) (hp : pc + 2 = pc') (w : (Jvm.Cond.constant own i v).before a0 Z = true) (hr : WPG C Z code ml own rt nm R n0 G cl sl h pc' Ls (.int v :: st)) : WPG C Z code ml own rt nm R n0 G cl sl h pc Ls st := by
  subst hp
  exact hr.pure fun X hx hby hown hZ eT t q => X.ldcInt hx hown (mvT hZ w) (g := mkF _ pc Ls st) rfl (hb hby hd) t q
theorem WP.ldcWI {i : Nat} {v : Int32} (hd : decode code pc = .ok (.ldc_w i, 3)) (hp : pc + 3 = pc') (w : (Jvm.Cond.constant own i v).before a0 Z = true) (hr : WPG C Z code ml own rt nm R n0 G cl sl h pc' Ls (.int v :: st)) : WPG C Z code ml own rt nm R n0 G cl sl h pc Ls st := by
  subst hp
  exact hr.pure fun X hx hby hown hZ eT t q => X.ldcWInt hx hown (mvT hZ w) (g := mkF _ pc Ls st) rfl (hb hby hd) t q
theorem WP.ldc2J {i : Nat} {v : Int64} (hd : decode code pc = .ok (.ldc2_w i, 3)) (hp : pc + 3 = pc') (w : (Jvm.Cond.constantLong own i v).before a0 Z = true) (hr : WPG C Z code ml own rt nm R n0 G cl sl h pc' Ls (.long v :: st)) : WPG C Z code ml own rt nm R n0 G cl sl h pc Ls st := by
  subst hp
  exact hr.pure fun X hx hby hown hZ eT t q => X.ldc2Long hx hown (mvT hZ w) (g := mkF _ pc Ls st) rfl (hb hby hd) t q
theorem WP.iadd {x y : Int32} (hd : decode code pc = .ok (.iadd, 1)) (hp : pc + 1 = pc') (hr : WPG C Z code ml own rt nm R n0 G cl sl h pc' Ls (.int (x + y) :: st)) : WPG C Z code ml own rt nm R n0 G cl sl h pc Ls (.int y :: .int x :: st) := by
  subst hp
  exact hr.pure fun X hx hby hown hZ eT t q => XS.iadd X.here hx rfl (hb hby hd) rfl q
theorem WP.isub {x y : Int32} (hd : decode code pc = .ok (.isub, 1)) (hp : pc + 1 = pc') (hr : WPG C Z code ml own rt nm R n0 G cl sl h pc' Ls (.int (x - y) :: st)) : WPG C Z code ml own rt nm R n0 G cl sl h pc Ls (.int y :: .int x :: st) := by
  subst hp
  exact hr.pure fun X hx hby hown hZ eT t q => XS.isub X.here hx rfl (hb hby hd) rfl q
theorem WP.imul {x y : Int32} (hd : decode code pc = .ok (.imul, 1)) (hp : pc + 1 = pc') (hr : WPG C Z code ml own rt nm R n0 G cl sl h pc' Ls (.int (x * y) :: st)) : WPG C Z code ml own rt nm R n0 G cl sl h pc Ls (.int y :: .int x :: st) := by
  subst hp
  exact hr.pure fun X hx hby hown hZ eT t q => XS.imul X.here hx rfl (hb hby hd) rfl q
theorem WP.iand {x y : Int32} (hd : decode code pc = .ok (.iand, 1)) (hp : pc + 1 = pc') (hr : WPG C Z code ml own rt nm R n0 G cl sl h pc' Ls (.int (x &&& y) :: st)) : WPG C Z code ml own rt nm R n0 G cl sl h pc Ls (.int y :: .int x :: st) := by
  subst hp
  exact hr.pure fun X hx hby hown hZ eT t q => XS.iand X.here hx rfl (hb hby hd) rfl q
theorem WP.ior {x y : Int32} (hd : decode code pc = .ok (.ior, 1)) (hp : pc + 1 = pc') (hr : WPG C Z code ml own rt nm R n0 G cl sl h pc' Ls (.int (x ||| y) :: st)) : WPG C Z code ml own rt nm R n0 G cl sl h pc Ls (.int y :: .int x :: st) := by
  subst hp
  exact hr.pure fun X hx hby hown hZ eT t q => XS.ior X.here hx rfl (hb hby hd) rfl q
theorem WP.ixor {x y : Int32} (hd : decode code pc = .ok (.ixor, 1)) (hp : pc + 1 = pc') (hr : WPG C Z code ml own rt nm R n0 G cl sl h pc' Ls (.int (x ^^^ y) :: st)) : WPG C Z code ml own rt nm R n0 G cl sl h pc Ls (.int y :: .int x :: st) := by
  subst hp
  exact hr.pure fun X hx hby hown hZ eT t q => XS.ixor X.here hx rfl (hb hby hd) rfl q
theorem WP.ishl {x y : Int32} (hd : decode code pc = .ok (.ishl, 1)) (hp : pc + 1 = pc') (hr : WPG C Z code ml own rt nm R n0 G cl sl h pc' Ls (.int (x <<< (y &&& 31)) :: st)) : WPG C Z code ml own rt nm R n0 G cl sl h pc Ls (.int y :: .int x :: st) := by
  subst hp
  exact hr.pure fun X hx hby hown hZ eT t q => XS.ishl X.here hx rfl (hb hby hd) rfl q
theorem WP.ishr {x y : Int32} (hd : decode code pc = .ok (.ishr, 1)) (hp : pc + 1 = pc') (hr : WPG C Z code ml own rt nm R n0 G cl sl h pc' Ls (.int (x >>> (y &&& 31)) :: st)) : WPG C Z code ml own rt nm R n0 G cl sl h pc Ls (.int y :: .int x :: st) := by
  subst hp
  exact hr.pure fun X hx hby hown hZ eT t q => XS.ishr X.here hx rfl (hb hby hd) rfl q
theorem WP.iushr {x y : Int32} (hd : decode code pc = .ok (.iushr, 1)) (hp : pc + 1 = pc') (hr : WPG C Z code ml own rt nm R n0 G cl sl h pc' Ls (.int ((x.toUInt32 >>> (y &&& 31).toUInt32).toInt32) :: st)) : WPG C Z code ml own rt nm R n0 G cl sl h pc Ls (.int y :: .int x :: st) := by
  subst hp
  exact hr.pure fun X hx hby hown hZ eT t q => XS.iushr X.here hx rfl (hb hby hd) rfl q
theorem WP.ladd {x y : Int64} (hd : decode code pc = .ok (.ladd, 1)) (hp : pc + 1 = pc') (hr : WPG C Z code ml own rt nm R n0 G cl sl h pc' Ls (.long (x + y) :: st)) : WPG C Z code ml own rt nm R n0 G cl sl h pc Ls (.long y :: .long x :: st) := by
  subst hp
  exact hr.pure fun X hx hby hown hZ eT t q => XS.ladd X.here hx rfl (hb hby hd) rfl q
theorem WP.lsub {x y : Int64} (hd : decode code pc = .ok (.lsub, 1)) (hp : pc + 1 = pc') (hr : WPG C Z code ml own rt nm R n0 G cl sl h pc' Ls (.long (x - y) :: st)) : WPG C Z code ml own rt nm R n0 G cl sl h pc Ls (.long y :: .long x :: st) := by
  subst hp
  exact hr.pure fun X hx hby hown hZ eT t q => XS.lsub X.here hx rfl (hb hby hd) rfl q
theorem WP.lmul {x y : Int64} (hd : decode code pc = .ok (.lmul, 1)) (hp : pc + 1 = pc') (hr : WPG C Z code ml own rt nm R n0 G cl sl h pc' Ls (.long (x * y) :: st)) : WPG C Z code ml own rt nm R n0 G cl sl h pc Ls (.long y :: .long x :: st) := by
  subst hp
  exact hr.pure fun X hx hby hown hZ eT t q => XS.lmul X.here hx rfl (hb hby hd) rfl q
theorem WP.land {x y : Int64} (hd : decode code pc = .ok (.land, 1)) (hp : pc + 1 = pc') (hr : WPG C Z code ml own rt nm R n0 G cl sl h pc' Ls (.long (x &&& y) :: st)) : WPG C Z code ml own rt nm R n0 G cl sl h pc Ls (.long y :: .long x :: st) := by
  subst hp
  exact hr.pure fun X hx hby hown hZ eT t q => XS.land X.here hx rfl (hb hby hd) rfl q
theorem WP.lor {x y : Int64} (hd : decode code pc = .ok (.lor, 1)) (hp : pc + 1 = pc') (hr : WPG C Z code ml own rt nm R n0 G cl sl h pc' Ls (.long (x ||| y) :: st)) : WPG C Z code ml own rt nm R n0 G cl sl h pc Ls (.long y :: .long x :: st) := by
  subst hp
  exact hr.pure fun X hx hby hown hZ eT t q => XS.lor X.here hx rfl (hb hby hd) rfl q
theorem WP.lxor {x y : Int64} (hd : decode code pc = .ok (.lxor, 1)) (hp : pc + 1 = pc') (hr : WPG C Z code ml own rt nm R n0 G cl sl h pc' Ls (.long (x ^^^ y) :: st)) : WPG C Z code ml own rt nm R n0 G cl sl h pc Ls (.long y :: .long x :: st) := by
  subst hp
  exact hr.pure fun X hx hby hown hZ eT t q => XS.lxor X.here hx rfl (hb hby hd) rfl q
theorem WP.lshl {x : Int64} {y : Int32} (hd : decode code pc = .ok (.lshl, 1)) (hp : pc + 1 = pc') (hr : WPG C Z code ml own rt nm R n0 G cl sl h pc' Ls (.long (x <<< (y &&& 0x3f).toInt64) :: st)) : WPG C Z code ml own rt nm R n0 G cl sl h pc Ls (.int y :: .long x :: st) := by
  subst hp
  exact hr.pure fun X hx hby hown hZ eT t q => XS.lshl X.here hx rfl (hb hby hd) rfl q
theorem WP.lshr {x : Int64} {y : Int32} (hd : decode code pc = .ok (.lshr, 1)) (hp : pc + 1 = pc') (hr : WPG C Z code ml own rt nm R n0 G cl sl h pc' Ls (.long (x >>> (y &&& 0x3f).toInt64) :: st)) : WPG C Z code ml own rt nm R n0 G cl sl h pc Ls (.int y :: .long x :: st) := by
  subst hp
  exact hr.pure fun X hx hby hown hZ eT t q => XS.lshr X.here hx rfl (hb hby hd) rfl q
theorem WP.lushr {x : Int64} {y : Int32} (hd : decode code pc = .ok (.lushr, 1)) (hp : pc + 1 = pc') (hr : WPG C Z code ml own rt nm R n0 G cl sl h pc' Ls (.long ((x.toUInt64 >>> (y &&& 0x3f).toInt64.toUInt64).toInt64) :: st)) : WPG C Z code ml own rt nm R n0 G cl sl h pc Ls (.int y :: .long x :: st) := by
  subst hp
  exact hr.pure fun X hx hby hown hZ eT t q => XS.lushr X.here hx rfl (hb hby hd) rfl q
theorem WP.idiv {x y : Int32} (hd : decode code pc = .ok (.idiv, 1)) (hp : pc + 1 = pc') (hy : y ≠ 0) (hr : WPG C Z code ml own rt nm R n0 G cl sl h pc' Ls (.int (x / y) :: st)) : WPG C Z code ml own rt nm R n0 G cl sl h pc Ls (.int y :: .int x :: st) := by
  subst hp
  exact hr.pure fun X hx hby hown hZ eT t q => XS.idiv X.here hx rfl (hb hby hd) rfl hy q
theorem WP.irem {x y : Int32} (hd : decode code pc = .ok (.irem, 1)) (hp : pc + 1 = pc') (hy : y ≠ 0) (hr : WPG C Z code ml own rt nm R n0 G cl sl h pc' Ls (.int (x % y) :: st)) : WPG C Z code ml own rt nm R n0 G cl sl h pc Ls (.int y :: .int x :: st) := by
  subst hp
  exact hr.pure fun X hx hby hown hZ eT t q => iremM X hx rfl (hb hby hd) rfl hy q
theorem WP.ldiv {x y : Int64} (hd : decode code pc = .ok (.ldiv, 1)) (hp : pc + 1 = pc') (hy : y ≠ 0) (hr : WPG C Z code ml own rt nm R n0 G cl sl h pc' Ls (.long (x / y) :: st)) : WPG C Z code ml own rt nm R n0 G cl sl h pc Ls (.long y :: .long x :: st) := by
  subst hp
  exact hr.pure fun X hx hby hown hZ eT t q => XS.ldiv X.here hx rfl (hb hby hd) rfl hy q
theorem WP.lrem {x y : Int64} (hd : decode code pc = .ok (.lrem, 1)) (hp : pc + 1 = pc') (hy : y ≠ 0) (hr : WPG C Z code ml own rt nm R n0 G cl sl h pc' Ls (.long (x % y) :: st)) : WPG C Z code ml own rt nm R n0 G cl sl h pc Ls (.long y :: .long x :: st) := by
  subst hp
  exact hr.pure fun X hx hby hown hZ eT t q => XS.lrem X.here hx rfl (hb hby hd) rfl hy (by rw [lrem_mod]; exact q)
theorem WP.ineg {x : Int32} (hd : decode code pc = .ok (.ineg, 1)) (hp : pc + 1 = pc') (hr : WPG C Z code ml own rt nm R n0 G cl sl h pc' Ls (.int (-x) :: st)) : WPG C Z code ml own rt nm R n0 G cl sl h pc Ls (.int x :: st) := by
  subst hp
  exact hr.pure fun X hx hby hown hZ eT t q => XS.ineg X.here hx rfl (hb hby hd) rfl q
theorem WP.lneg {x : Int64} (hd : decode code pc = .ok (.lneg, 1)) (hp : pc + 1 = pc') (hr : WPG C Z code ml own rt nm R n0 G cl sl h pc' Ls (.long (-x) :: st)) : WPG C Z code ml own rt nm R n0 G cl sl h pc Ls (.long x :: st) := by
  subst hp
  exact hr.pure fun X hx hby hown hZ eT t q => XS.lneg X.here hx rfl (hb hby hd) rfl q
theorem WP.i2l {x : Int32} (hd : decode code pc = .ok (.i2l, 1)) (hp : pc + 1 = pc') (hr : WPG C Z code ml own rt nm R n0 G cl sl h pc' Ls (.long (x.toInt64) :: st)) : WPG C Z code ml own rt nm R n0 G cl sl h pc Ls (.int x :: st) := by
  subst hp
  exact hr.pure fun X hx hby hown hZ eT t q => XS.i2l X.here hx rfl (hb hby hd) rfl q
theorem WP.l2i {x : Int64} (hd : decode code pc = .ok (.l2i, 1)) (hp : pc + 1 = pc') (hr : WPG C Z code ml own rt nm R n0 G cl sl h pc' Ls (.int (x.toInt32) :: st)) : WPG C Z code ml own rt nm R n0 G cl sl h pc Ls (.long x :: st) := by
  subst hp
  exact hr.pure fun X hx hby hown hZ eT t q => XS.l2i X.here hx rfl (hb hby hd) rfl q
theorem WP.i2b {x : Int32} (hd : decode code pc = .ok (.i2b, 1)) (hp : pc + 1 = pc') (hr : WPG C Z code ml own rt nm R n0 G cl sl h pc' Ls (.int (x.toInt8.toInt32) :: st)) : WPG C Z code ml own rt nm R n0 G cl sl h pc Ls (.int x :: st) := by
  subst hp
  exact hr.pure fun X hx hby hown hZ eT t q => XS.i2b X.here hx rfl (hb hby hd) rfl q
theorem WP.i2c {x : Int32} (hd : decode code pc = .ok (.i2c, 1)) (hp : pc + 1 = pc') (hr : WPG C Z code ml own rt nm R n0 G cl sl h pc' Ls (.int (x.toUInt32.toUInt16.toUInt32.toInt32) :: st)) : WPG C Z code ml own rt nm R n0 G cl sl h pc Ls (.int x :: st) := by
  subst hp
  exact hr.pure fun X hx hby hown hZ eT t q => XS.i2c X.here hx rfl (hb hby hd) rfl q
theorem WP.i2s {x : Int32} (hd : decode code pc = .ok (.i2s, 1)) (hp : pc + 1 = pc') (hr : WPG C Z code ml own rt nm R n0 G cl sl h pc' Ls (.int (x.toInt16.toInt32) :: st)) : WPG C Z code ml own rt nm R n0 G cl sl h pc Ls (.int x :: st) := by
  subst hp
  exact hr.pure fun X hx hby hown hZ eT t q => XS.i2s X.here hx rfl (hb hby hd) rfl q
theorem WP.dup {x : Value} (hd : decode code pc = .ok (.dup, 1)) (hp : pc + 1 = pc') (hc : x.category = 1) (hr : WPG C Z code ml own rt nm R n0 G cl sl h pc' Ls (x :: x :: st)) : WPG C Z code ml own rt nm R n0 G cl sl h pc Ls (x :: st) := by
  subst hp
  exact hr.pure fun X hx hby hown hZ eT t q => XS.dup X.here hx rfl (hb hby hd) rfl hc q
theorem WP.pop {x : Value} (hd : decode code pc = .ok (.pop, 1)) (hp : pc + 1 = pc') (hc : x.category = 1) (hr : WPG C Z code ml own rt nm R n0 G cl sl h pc' Ls st) : WPG C Z code ml own rt nm R n0 G cl sl h pc Ls (x :: st) := by
  subst hp
  exact hr.pure fun X hx hby hown hZ eT t q => XS.pop X.here hx rfl (hb hby hd) rfl hc q
theorem WP.dupX1 {x y : Value} (hd : decode code pc = .ok (.dup_x1, 1)) (hp : pc + 1 = pc') (hc : x.category = 1) (hc' : y.category = 1) (hr : WPG C Z code ml own rt nm R n0 G cl sl h pc' Ls (x :: y :: x :: st)) : WPG C Z code ml own rt nm R n0 G cl sl h pc Ls (x :: y :: st) := by
  subst hp
  exact hr.pure fun X hx hby hown hZ eT t q => XS.dupX1 X.here hx rfl (hb hby hd) rfl hc hc' q
theorem WP.dup2 {x y : Value} (hd : decode code pc = .ok (.dup2, 1)) (hp : pc + 1 = pc') (hc : x.category = 1) (hc' : y.category = 1) (hr : WPG C Z code ml own rt nm R n0 G cl sl h pc' Ls (x :: y :: x :: y :: st)) : WPG C Z code ml own rt nm R n0 G cl sl h pc Ls (x :: y :: st) := by
  subst hp
  exact hr.pure fun X hx hby hown hZ eT t q => Jvm.Free.XT.dup2 X.here hx rfl (hb hby hd) rfl hc hc' q
theorem WP.dup2L {x : Int64} (hd : decode code pc = .ok (.dup2, 1)) (hp : pc + 1 = pc') (hr : WPG C Z code ml own rt nm R n0 G cl sl h pc' Ls (.long x :: .long x :: st)) : WPG C Z code ml own rt nm R n0 G cl sl h pc Ls (.long x :: st) := by
  subst hp
  exact hr.pure fun X hx hby hown hZ eT t q => Jvm.Free.XT.dup2L X.here hx rfl (hb hby hd) rfl q
theorem WP.iinc {k : Nat} {i : Int} {x z : Int32} (hd : decode code pc = .ok (.iinc k i, 3)) (hp : pc + 3 = pc') (hl : Ls[k]? = some (.val (.int x))) (hz : x + Int32.ofInt i = z) (hl' : storeLocals Ls k (.int z) = some Ls') (hr : WPG C Z code ml own rt nm R n0 G cl sl h pc' Ls' st) : WPG C Z code ml own rt nm R n0 G cl sl h pc Ls st := by
  subst hp
  subst hz
  exact hr.pure fun X hx hby hown hZ eT t q => XS.iinc X.here hx rfl (hb hby hd) hl hl' q
theorem WP.ldc2D {i : Nat} {v : UInt64} (hd : decode code pc = .ok (.ldc2_w i, 3)) (hp : pc + 3 = pc') (w : (Jvm.Cond.constantDouble own i v).before a0 Z = true) (hr : WPG C Z code ml own rt nm R n0 G cl sl h pc' Ls (.double v :: st)) : WPG C Z code ml own rt nm R n0 G cl sl h pc Ls st := by
  subst hp
  exact hr.pure fun X hx hby hown hZ eT t q => X.ldc2DoubleC hx hown (mvT hZ w) (g := mkF _ pc Ls st) rfl (hb hby hd) t q
theorem WP.dconst0 {v : UInt64} (hd : decode code pc = .ok (.dconst 0, 1)) (hp : pc + 1 = pc') (hv : FP.dconst0 = v) (hr : WPG C Z code ml own rt nm R n0 G cl sl h pc' Ls (.double v :: st)) : WPG C Z code ml own rt nm R n0 G cl sl h pc Ls st := by
  subst hp
  exact hr.pure fun X hx hby hown hZ eT t q => XS.dconst0 X.here hx rfl (hb hby hd) hv q
theorem WP.dconst1 {v : UInt64} (hd : decode code pc = .ok (.dconst 1, 1)) (hp : pc + 1 = pc') (hv : FP.dconst1 = v) (hr : WPG C Z code ml own rt nm R n0 G cl sl h pc' Ls (.double v :: st)) : WPG C Z code ml own rt nm R n0 G cl sl h pc Ls st := by
  subst hp
  exact hr.pure fun X hx hby hown hZ eT t q => XS.dconst1 X.here hx rfl (hb hby hd) hv q
theorem WP.i2d {x : Int32} {v : UInt64} (hd : decode code pc = .ok (.i2d, 1)) (hp : pc + 1 = pc') (hv : FP.i2d x = v) (hr : WPG C Z code ml own rt nm R n0 G cl sl h pc' Ls (.double v :: st)) : WPG C Z code ml own rt nm R n0 G cl sl h pc Ls (.int x :: st) := by
  subst hp
  exact hr.pure fun X hx hby hown hZ eT t q => XS.i2dS X.here hx rfl (hb hby hd) rfl hv q
theorem WP.l2d {x : Int64} {v : UInt64} (hd : decode code pc = .ok (.l2d, 1)) (hp : pc + 1 = pc') (hv : FP.l2d x = v) (hr : WPG C Z code ml own rt nm R n0 G cl sl h pc' Ls (.double v :: st)) : WPG C Z code ml own rt nm R n0 G cl sl h pc Ls (.long x :: st) := by
  subst hp
  exact hr.pure fun X hx hby hown hZ eT t q => XS.l2dS X.here hx rfl (hb hby hd) rfl hv q
theorem WP.dcmp {o : CmpOp} {x y : UInt64} {v : Int32} (hd : decode code pc = .ok (.dcmp o, 1)) (hp : pc + 1 = pc') (hv : cmpValue (FP.dcmp x y) o = v) (hr : WPG C Z code ml own rt nm R n0 G cl sl h pc' Ls (.int v :: st)) : WPG C Z code ml own rt nm R n0 G cl sl h pc Ls (.double y :: .double x :: st) := by
  subst hp
  exact hr.pure fun X hx hby hown hZ eT t q => XS.dcmpS X.here hx rfl (hb hby hd) rfl hv q
theorem WP.dadd {x y v : UInt64} (hd : decode code pc = .ok (.dadd, 1)) (hp : pc + 1 = pc') (hn : Jvm.Free.Fl.NoNaN64 (FP.dadd x y)) (hv : FP.dadd x y = v) (hr : WPG C Z code ml own rt nm R n0 G cl sl h pc' Ls (.double v :: st)) : WPG C Z code ml own rt nm R n0 G cl sl h pc Ls (.double y :: .double x :: st) := by
  subst hp
  exact hr.pure fun X hx hby hown hZ eT t q => XS.daddS X.here hx rfl (hb hby hd) rfl hn hv q
theorem WP.dsub {x y v : UInt64} (hd : decode code pc = .ok (.dsub, 1)) (hp : pc + 1 = pc') (hn : Jvm.Free.Fl.NoNaN64 (FP.dsub x y)) (hv : FP.dsub x y = v) (hr : WPG C Z code ml own rt nm R n0 G cl sl h pc' Ls (.double v :: st)) : WPG C Z code ml own rt nm R n0 G cl sl h pc Ls (.double y :: .double x :: st) := by
  subst hp
  exact hr.pure fun X hx hby hown hZ eT t q => XS.dsubS X.here hx rfl (hb hby hd) rfl hn hv q
theorem WP.dmul {x y v : UInt64} (hd : decode code pc = .ok (.dmul, 1)) (hp : pc + 1 = pc') (hn : Jvm.Free.Fl.NoNaN64 (FP.dmul x y)) (hv : FP.dmul x y = v) (hr : WPG C Z code ml own rt nm R n0 G cl sl h pc' Ls (.double v :: st)) : WPG C Z code ml own rt nm R n0 G cl sl h pc Ls (.double y :: .double x :: st) := by
  subst hp
  exact hr.pure fun X hx hby hown hZ eT t q => XS.dmulS X.here hx rfl (hb hby hd) rfl hn hv q
theorem WP.ddiv {x y v : UInt64} (hd : decode code pc = .ok (.ddiv, 1)) (hp : pc + 1 = pc') (hn : Jvm.Free.Fl.NoNaN64 (FP.ddiv x y)) (hv : FP.ddiv x y = v) (hr : WPG C Z code ml own rt nm R n0 G cl sl h pc' Ls (.double v :: st)) : WPG C Z code ml own rt nm R n0 G cl sl h pc Ls (.double y :: .double x :: st) := by
  subst hp
  exact hr.pure fun X hx hby hown hZ eT t q => XS.ddivS X.here hx rfl (hb hby hd) rfl hn hv q
theorem WP.lcmp {x y : Int64} (hd : decode code pc = .ok (.lcmp, 1)) (hp : pc + 1 = pc') (hr : WPG C Z code ml own rt nm R n0 G cl sl h pc' Ls (.int (lcmpW x y) :: st)) : WPG C Z code ml own rt nm R n0 G cl sl h pc Ls (.long y :: .long x :: st) := by
  subst hp
  exact hr.pure fun X hx hby hown hZ eT t q => XS.lcmp X.here hx rfl (hb hby hd) rfl q
theorem WP.goto {o : Int} (hd : decode code pc = .ok (.goto o, 3)) (ho : 0 ≤ (pc : Int) + o) (hp : ((pc : Int) + o).toNat = pc') (hr : WPG C Z code ml own rt nm R n0 G cl sl h pc' Ls st) : WPG C Z code ml own rt nm R n0 G cl sl h pc Ls st :=
  hr.pure fun X hx hby hown hZ eT t q => XS.goto X.here hx rfl (pc0 := pc) rfl (hb hby hd) ho hp q
theorem WP.icmp {pc1 pc2 : Nat} {x y : Int32} {cd : ClassFile.Cond} {o : Int} (hd : decode code pc = .ok (.if_icmp cd o, 3)) (ho : 0 ≤ (pc : Int) + o) (hp : ((pc : Int) + o).toNat = pc1) (hp2 : pc + 3 = pc2) (hy : if_icmp.holds cd x y = true → WPG C Z code ml own rt nm R n0 G cl sl h pc1 Ls st) (hn : if_icmp.holds cd x y = false → WPG C Z code ml own rt nm R n0 G cl sl h pc2 Ls st) : WPG C Z code ml own rt nm R n0 G cl sl h pc Ls (.int y :: .int x :: st) := by
  subst hp2
  cases hq : if_icmp.holds cd x y with
  | true => exact (hy hq).pure fun X hx hby hown hZ eT t q => XS.icmpYes X.here hx rfl (pc0 := pc) rfl (hb hby hd) rfl hq ho hp q
  | false => exact (hn hq).pure fun X hx hby hown hZ eT t q => XS.icmpNo X.here hx rfl (hb hby hd) rfl hq q
theorem WP.icmp_lt {pc1 pc2 : Nat} {x y : Int32} {o : Int} (hd : decode code pc = .ok (.if_icmp .lt o, 3)) (ho : 0 ≤ (pc : Int) + o) (hp : ((pc : Int) + o).toNat = pc1) (hp2 : pc + 3 = pc2) (hy : x < y → WPG C Z code ml own rt nm R n0 G cl sl h pc1 Ls st) (hn : ¬ x < y → WPG C Z code ml own rt nm R n0 G cl sl h pc2 Ls st) : WPG C Z code ml own rt nm R n0 G cl sl h pc Ls (.int y :: .int x :: st) :=
  WP.icmp hd ho hp hp2 (fun hq => hy (Decidable.byContradiction fun k => by rw [(flt k).1] at hq; cases hq)) (fun hq => hn (fun k => by rw [(tlt k).1] at hq; cases hq))
theorem WP.icmp_ge {pc1 pc2 : Nat} {x y : Int32} {o : Int} (hd : decode code pc = .ok (.if_icmp .ge o, 3)) (ho : 0 ≤ (pc : Int) + o) (hp : ((pc : Int) + o).toNat = pc1) (hp2 : pc + 3 = pc2) (hy : ¬ x < y → WPG C Z code ml own rt nm R n0 G cl sl h pc1 Ls st) (hn : x < y → WPG C Z code ml own rt nm R n0 G cl sl h pc2 Ls st) : WPG C Z code ml own rt nm R n0 G cl sl h pc Ls (.int y :: .int x :: st) :=
  WP.icmp hd ho hp hp2 (fun hq => hy (fun k => by rw [(tlt k).2.1] at hq; cases hq)) (fun hq => hn (Decidable.byContradiction fun k => by rw [(flt k).2.1] at hq; cases hq))
theorem WP.icmp_gt {pc1 pc2 : Nat} {x y : Int32} {o : Int} (hd : decode code pc = .ok (.if_icmp .gt o, 3)) (ho : 0 ≤ (pc : Int) + o) (hp : ((pc : Int) + o).toNat = pc1) (hp2 : pc + 3 = pc2) (hy : y < x → WPG C Z code ml own rt nm R n0 G cl sl h pc1 Ls st) (hn : ¬ y < x → WPG C Z code ml own rt nm R n0 G cl sl h pc2 Ls st) : WPG C Z code ml own rt nm R n0 G cl sl h pc Ls (.int y :: .int x :: st) :=
  WP.icmp hd ho hp hp2 (fun hq => hy (Decidable.byContradiction fun k => by rw [(flt k).2.2.1] at hq; cases hq)) (fun hq => hn (fun k => by rw [(tlt k).2.2.1] at hq; cases hq))
theorem WP.icmp_le {pc1 pc2 : Nat} {x y : Int32} {o : Int} (hd : decode code pc = .ok (.if_icmp .le o, 3)) (ho : 0 ≤ (pc : Int) + o) (hp : ((pc : Int) + o).toNat = pc1) (hp2 : pc + 3 = pc2) (hy : ¬ y < x → WPG C Z code ml own rt nm R n0 G cl sl h pc1 Ls st) (hn : y < x → WPG C Z code ml own rt nm R n0 G cl sl h pc2 Ls st) : WPG C Z code ml own rt nm R n0 G cl sl h pc Ls (.int y :: .int x :: st) :=
  WP.icmp hd ho hp hp2 (fun hq => hy (fun k => by rw [(tlt k).2.2.2] at hq; cases hq)) (fun hq => hn (Decidable.byContradiction fun k => by rw [(flt k).2.2.2] at hq; cases hq))
theorem WP.icmp_eq {pc1 pc2 : Nat} {x y : Int32} {o : Int} (hd : decode code pc = .ok (.if_icmp .eq o, 3)) (ho : 0 ≤ (pc : Int) + o) (hp : ((pc : Int) + o).toNat = pc1) (hp2 : pc + 3 = pc2) (hy : x = y → WPG C Z code ml own rt nm R n0 G cl sl h pc1 Ls st) (hn : ¬ x = y → WPG C Z code ml own rt nm R n0 G cl sl h pc2 Ls st) : WPG C Z code ml own rt nm R n0 G cl sl h pc Ls (.int y :: .int x :: st) :=
  WP.icmp hd ho hp hp2 (fun hq => hy (Decidable.byContradiction fun k => by rw [(feq k).1] at hq; cases hq)) (fun hq => hn (fun k => by rw [(teq k).1] at hq; cases hq))
theorem WP.icmp_ne {pc1 pc2 : Nat} {x y : Int32} {o : Int} (hd : decode code pc = .ok (.if_icmp .ne o, 3)) (ho : 0 ≤ (pc : Int) + o) (hp : ((pc : Int) + o).toNat = pc1) (hp2 : pc + 3 = pc2) (hy : ¬ x = y → WPG C Z code ml own rt nm R n0 G cl sl h pc1 Ls st) (hn : x = y → WPG C Z code ml own rt nm R n0 G cl sl h pc2 Ls st) : WPG C Z code ml own rt nm R n0 G cl sl h pc Ls (.int y :: .int x :: st) :=
  WP.icmp hd ho hp hp2 (fun hq => hy (fun k => by rw [(teq k).2] at hq; cases hq)) (fun hq => hn (Decidable.byContradiction fun k => by rw [(feq k).2] at hq; cases hq))
theorem WP.ifc {pc1 pc2 : Nat} {x : Int32} {cd : ClassFile.Cond} {o : Int} (hd : decode code pc = .ok (.ifCond cd o, 3)) (ho : 0 ≤ (pc : Int) + o) (hp : ((pc : Int) + o).toNat = pc1) (hp2 : pc + 3 = pc2) (hy : ifCond.holds cd x = true → WPG C Z code ml own rt nm R n0 G cl sl h pc1 Ls st) (hn : ifCond.holds cd x = false → WPG C Z code ml own rt nm R n0 G cl sl h pc2 Ls st) : WPG C Z code ml own rt nm R n0 G cl sl h pc Ls (.int x :: st) := by
  subst hp2
  cases hq : ifCond.holds cd x with
  | true => exact (hy hq).pure fun X hx hby hown hZ eT t q => XS.ifYes X.here hx rfl (pc0 := pc) rfl (hb hby hd) rfl hq ho hp q
  | false => exact (hn hq).pure fun X hx hby hown hZ eT t q => XS.ifNo X.here hx rfl (hb hby hd) rfl hq q
theorem WP.ifc_lt {pc1 pc2 : Nat} {x : Int32} {o : Int} (hd : decode code pc = .ok (.ifCond .lt o, 3)) (ho : 0 ≤ (pc : Int) + o) (hp : ((pc : Int) + o).toNat = pc1) (hp2 : pc + 3 = pc2) (hy : x < (0 : Int32) → WPG C Z code ml own rt nm R n0 G cl sl h pc1 Ls st) (hn : ¬ x < (0 : Int32) → WPG C Z code ml own rt nm R n0 G cl sl h pc2 Ls st) : WPG C Z code ml own rt nm R n0 G cl sl h pc Ls (.int x :: st) :=
  WP.ifc hd ho hp hp2 (fun hq => hy (Decidable.byContradiction fun k => by rw [(if0 _ _).trans (flt k).1] at hq; cases hq)) (fun hq => hn (fun k => by rw [(if0 _ _).trans (tlt k).1] at hq; cases hq))
theorem WP.ifc_ge {pc1 pc2 : Nat} {x : Int32} {o : Int} (hd : decode code pc = .ok (.ifCond .ge o, 3)) (ho : 0 ≤ (pc : Int) + o) (hp : ((pc : Int) + o).toNat = pc1) (hp2 : pc + 3 = pc2) (hy : ¬ x < (0 : Int32) → WPG C Z code ml own rt nm R n0 G cl sl h pc1 Ls st) (hn : x < (0 : Int32) → WPG C Z code ml own rt nm R n0 G cl sl h pc2 Ls st) : WPG C Z code ml own rt nm R n0 G cl sl h pc Ls (.int x :: st) :=
  WP.ifc hd ho hp hp2 (fun hq => hy (fun k => by rw [(if0 _ _).trans (tlt k).2.1] at hq; cases hq)) (fun hq => hn (Decidable.byContradiction fun k => by rw [(if0 _ _).trans (flt k).2.1] at hq; cases hq))
theorem WP.ifc_gt {pc1 pc2 : Nat} {x : Int32} {o : Int} (hd : decode code pc = .ok (.ifCond .gt o, 3)) (ho : 0 ≤ (pc : Int) + o) (hp : ((pc : Int) + o).toNat = pc1) (hp2 : pc + 3 = pc2) (hy : (0 : Int32) < x → WPG C Z code ml own rt nm R n0 G cl sl h pc1 Ls st) (hn : ¬ (0 : Int32) < x → WPG C Z code ml own rt nm R n0 G cl sl h pc2 Ls st) : WPG C Z code ml own rt nm R n0 G cl sl h pc Ls (.int x :: st) :=
  WP.ifc hd ho hp hp2 (fun hq => hy (Decidable.byContradiction fun k => by rw [(if0 _ _).trans (flt k).2.2.1] at hq; cases hq)) (fun hq => hn (fun k => by rw [(if0 _ _).trans (tlt k).2.2.1] at hq; cases hq))
theorem WP.ifc_le {pc1 pc2 : Nat} {x : Int32} {o : Int} (hd : decode code pc = .ok (.ifCond .le o, 3)) (ho : 0 ≤ (pc : Int) + o) (hp : ((pc : Int) + o).toNat = pc1) (hp2 : pc + 3 = pc2) (hy : ¬ (0 : Int32) < x → WPG C Z code ml own rt nm R n0 G cl sl h pc1 Ls st) (hn : (0 : Int32) < x → WPG C Z code ml own rt nm R n0 G cl sl h pc2 Ls st) : WPG C Z code ml own rt nm R n0 G cl sl h pc Ls (.int x :: st) :=
  WP.ifc hd ho hp hp2 (fun hq => hy (fun k => by rw [(if0 _ _).trans (tlt k).2.2.2] at hq; cases hq)) (fun hq => hn (Decidable.byContradiction fun k => by rw [(if0 _ _).trans (flt k).2.2.2] at hq; cases hq))
theorem WP.ifc_eq {pc1 pc2 : Nat} {x : Int32} {o : Int} (hd : decode code pc = .ok (.ifCond .eq o, 3)) (ho : 0 ≤ (pc : Int) + o) (hp : ((pc : Int) + o).toNat = pc1) (hp2 : pc + 3 = pc2) (hy : x = (0 : Int32) → WPG C Z code ml own rt nm R n0 G cl sl h pc1 Ls st) (hn : ¬ x = (0 : Int32) → WPG C Z code ml own rt nm R n0 G cl sl h pc2 Ls st) : WPG C Z code ml own rt nm R n0 G cl sl h pc Ls (.int x :: st) :=
  WP.ifc hd ho hp hp2 (fun hq => hy (Decidable.byContradiction fun k => by rw [(if0 _ _).trans (feq k).1] at hq; cases hq)) (fun hq => hn (fun k => by rw [(if0 _ _).trans (teq k).1] at hq; cases hq))
theorem WP.ifc_ne {pc1 pc2 : Nat} {x : Int32} {o : Int} (hd : decode code pc = .ok (.ifCond .ne o, 3)) (ho : 0 ≤ (pc : Int) + o) (hp : ((pc : Int) + o).toNat = pc1) (hp2 : pc + 3 = pc2) (hy : ¬ x = (0 : Int32) → WPG C Z code ml own rt nm R n0 G cl sl h pc1 Ls st) (hn : x = (0 : Int32) → WPG C Z code ml own rt nm R n0 G cl sl h pc2 Ls st) : WPG C Z code ml own rt nm R n0 G cl sl h pc Ls (.int x :: st) :=
  WP.ifc hd ho hp hp2 (fun hq => hy (fun k => by rw [(if0 _ _).trans (teq k).2] at hq; cases hq)) (fun hq => hn (Decidable.byContradiction fun k => by rw [(if0 _ _).trans (feq k).2] at hq; cases hq))
theorem WP.lcmp_lt {pc1 pc2 : Nat} {x y : Int64} {o : Int} (hd1 : decode code pc = .ok (.lcmp, 1)) (hp0 : pc + 1 = pc') (hd : decode code pc' = .ok (.ifCond .lt o, 3)) (ho : 0 ≤ (pc' : Int) + o) (hp : ((pc' : Int) + o).toNat = pc1) (hp2 : pc' + 3 = pc2) (hy : x < y → WPG C Z code ml own rt nm R n0 G cl sl h pc1 Ls st) (hn : ¬ x < y → WPG C Z code ml own rt nm R n0 G cl sl h pc2 Ls st) : WPG C Z code ml own rt nm R n0 G cl sl h pc Ls (.long y :: .long x :: st) :=
  WP.lcmp hd1 hp0 (WP.ifc_lt hd ho hp hp2 (fun k => hy ((lw_lt x y).mp k)) (fun k => hn (fun z => k ((lw_lt x y).mpr z))))
theorem WP.lcmp_ge {pc1 pc2 : Nat} {x y : Int64} {o : Int} (hd1 : decode code pc = .ok (.lcmp, 1)) (hp0 : pc + 1 = pc') (hd : decode code pc' = .ok (.ifCond .ge o, 3)) (ho : 0 ≤ (pc' : Int) + o) (hp : ((pc' : Int) + o).toNat = pc1) (hp2 : pc' + 3 = pc2) (hy : ¬ x < y → WPG C Z code ml own rt nm R n0 G cl sl h pc1 Ls st) (hn : x < y → WPG C Z code ml own rt nm R n0 G cl sl h pc2 Ls st) : WPG C Z code ml own rt nm R n0 G cl sl h pc Ls (.long y :: .long x :: st) :=
  WP.lcmp hd1 hp0 (WP.ifc_ge hd ho hp hp2 (fun k => hy (fun z => k ((lw_lt x y).mpr z))) (fun k => hn ((lw_lt x y).mp k)))
theorem WP.lcmp_gt {pc1 pc2 : Nat} {x y : Int64} {o : Int} (hd1 : decode code pc = .ok (.lcmp, 1)) (hp0 : pc + 1 = pc') (hd : decode code pc' = .ok (.ifCond .gt o, 3)) (ho : 0 ≤ (pc' : Int) + o) (hp : ((pc' : Int) + o).toNat = pc1) (hp2 : pc' + 3 = pc2) (hy : y < x → WPG C Z code ml own rt nm R n0 G cl sl h pc1 Ls st) (hn : ¬ y < x → WPG C Z code ml own rt nm R n0 G cl sl h pc2 Ls st) : WPG C Z code ml own rt nm R n0 G cl sl h pc Ls (.long y :: .long x :: st) :=
  WP.lcmp hd1 hp0 (WP.ifc_gt hd ho hp hp2 (fun k => hy ((lw_gt x y).mp k)) (fun k => hn (fun z => k ((lw_gt x y).mpr z))))
theorem WP.lcmp_le {pc1 pc2 : Nat} {x y : Int64} {o : Int} (hd1 : decode code pc = .ok (.lcmp, 1)) (hp0 : pc + 1 = pc') (hd : decode code pc' = .ok (.ifCond .le o, 3)) (ho : 0 ≤ (pc' : Int) + o) (hp : ((pc' : Int) + o).toNat = pc1) (hp2 : pc' + 3 = pc2) (hy : ¬ y < x → WPG C Z code ml own rt nm R n0 G cl sl h pc1 Ls st) (hn : y < x → WPG C Z code ml own rt nm R n0 G cl sl h pc2 Ls st) : WPG C Z code ml own rt nm R n0 G cl sl h pc Ls (.long y :: .long x :: st) :=
  WP.lcmp hd1 hp0 (WP.ifc_le hd ho hp hp2 (fun k => hy (fun z => k ((lw_gt x y).mpr z))) (fun k => hn ((lw_gt x y).mp k)))
theorem WP.lcmp_eq {pc1 pc2 : Nat} {x y : Int64} {o : Int} (hd1 : decode code pc = .ok (.lcmp, 1)) (hp0 : pc + 1 = pc') (hd : decode code pc' = .ok (.ifCond .eq o, 3)) (ho : 0 ≤ (pc' : Int) + o) (hp : ((pc' : Int) + o).toNat = pc1) (hp2 : pc' + 3 = pc2) (hy : x = y → WPG C Z code ml own rt nm R n0 G cl sl h pc1 Ls st) (hn : ¬ x = y → WPG C Z code ml own rt nm R n0 G cl sl h pc2 Ls st) : WPG C Z code ml own rt nm R n0 G cl sl h pc Ls (.long y :: .long x :: st) :=
  WP.lcmp hd1 hp0 (WP.ifc_eq hd ho hp hp2 (fun k => hy ((lw_eq x y).mp k)) (fun k => hn (fun z => k ((lw_eq x y).mpr z))))
theorem WP.lcmp_ne {pc1 pc2 : Nat} {x y : Int64} {o : Int} (hd1 : decode code pc = .ok (.lcmp, 1)) (hp0 : pc + 1 = pc') (hd : decode code pc' = .ok (.ifCond .ne o, 3)) (ho : 0 ≤ (pc' : Int) + o) (hp : ((pc' : Int) + o).toNat = pc1) (hp2 : pc' + 3 = pc2) (hy : ¬ x = y → WPG C Z code ml own rt nm R n0 G cl sl h pc1 Ls st) (hn : x = y → WPG C Z code ml own rt nm R n0 G cl sl h pc2 Ls st) : WPG C Z code ml own rt nm R n0 G cl sl h pc Ls (.long y :: .long x :: st) :=
  WP.lcmp hd1 hp0 (WP.ifc_ne hd ho hp hp2 (fun k => hy (fun z => k ((lw_eq x y).mpr z))) (fun k => hn ((lw_eq x y).mp k)))
theorem WP.ifnullY {b : Addr} {o : Int} (hd : decode code pc = .ok (.ifnull o, 3)) (ho : 0 ≤ (pc : Int) + o) (hp : ((pc : Int) + o).toNat = pc') (hr : WPG C Z code ml own rt nm R n0 G cl sl h pc' Ls st) : WPG C Z code ml own rt nm R n0 G cl sl h pc Ls (.null :: st) :=
  hr.pure fun X hx hby hown hZ eT t q => XS.ifnullYes X.here hx rfl (pc0 := pc) rfl (hb hby hd) rfl ho hp q
theorem WP.ifnullN {b : Addr} {o : Int} (hd : decode code pc = .ok (.ifnull o, 3)) (hp : pc + 3 = pc') (hr : WPG C Z code ml own rt nm R n0 G cl sl h pc' Ls st) : WPG C Z code ml own rt nm R n0 G cl sl h pc Ls (.ref b :: st) := by
  subst hp
  exact hr.pure fun X hx hby hown hZ eT t q => XS.ifnullNo X.here hx rfl (hb hby hd) rfl q
theorem WP.ifnonnullY {b : Addr} {o : Int} (hd : decode code pc = .ok (.ifnonnull o, 3)) (ho : 0 ≤ (pc : Int) + o) (hp : ((pc : Int) + o).toNat = pc') (hr : WPG C Z code ml own rt nm R n0 G cl sl h pc' Ls st) : WPG C Z code ml own rt nm R n0 G cl sl h pc Ls (.ref b :: st) :=
  hr.pure fun X hx hby hown hZ eT t q => XS.ifnonnullYes X.here hx rfl (pc0 := pc) rfl (hb hby hd) rfl ho hp q
theorem WP.ifnonnullN {b : Addr} {o : Int} (hd : decode code pc = .ok (.ifnonnull o, 3)) (hp : pc + 3 = pc') (hr : WPG C Z code ml own rt nm R n0 G cl sl h pc' Ls st) : WPG C Z code ml own rt nm R n0 G cl sl h pc Ls (.null :: st) := by
  subst hp
  exact hr.pure fun X hx hby hown hZ eT t q => XS.ifnonnullNo X.here hx rfl (hb hby hd) rfl q
theorem WP.acmp_eq {pc1 pc2 : Nat} {x y : Value} {o : Int} (hd : decode code pc = .ok (.if_acmp .eq o, 3)) (h1 : x.isRef = true) (h2 : y.isRef = true) (ho : 0 ≤ (pc : Int) + o) (hp : ((pc : Int) + o).toNat = pc1) (hp2 : pc + 3 = pc2) (hy : x = y → WPG C Z code ml own rt nm R n0 G cl sl h pc1 Ls st) (hn : ¬ x = y → WPG C Z code ml own rt nm R n0 G cl sl h pc2 Ls st) : WPG C Z code ml own rt nm R n0 G cl sl h pc Ls (y :: x :: st) := by
  by_cases k : x = y
  · exact (hy k).pure fun X hx hby hown hZ eT t q => Jvm.RoadKit.acmp X hx rfl h1 h2 (pc0 := pc) (same := true) rfl (hb hby hd) rfl (decide_eq_true k) ho (by simp [acV, hp, hp2]) q
  · exact (hn k).pure fun X hx hby hown hZ eT t q => Jvm.RoadKit.acmp X hx rfl h1 h2 (pc0 := pc) (same := false) rfl (hb hby hd) rfl (decide_eq_false k) ho (by simp [acV, hp, hp2]) q
theorem WP.acmp_ne {pc1 pc2 : Nat} {x y : Value} {o : Int} (hd : decode code pc = .ok (.if_acmp .ne o, 3)) (h1 : x.isRef = true) (h2 : y.isRef = true) (ho : 0 ≤ (pc : Int) + o) (hp : ((pc : Int) + o).toNat = pc1) (hp2 : pc + 3 = pc2) (hy : ¬ x = y → WPG C Z code ml own rt nm R n0 G cl sl h pc1 Ls st) (hn : x = y → WPG C Z code ml own rt nm R n0 G cl sl h pc2 Ls st) : WPG C Z code ml own rt nm R n0 G cl sl h pc Ls (y :: x :: st) := by
  by_cases k : x = y
  · exact (hn k).pure fun X hx hby hown hZ eT t q => Jvm.RoadKit.acmp X hx rfl h1 h2 (pc0 := pc) (same := true) rfl (hb hby hd) rfl (decide_eq_true k) ho (by simp [acV, hp, hp2]) q
  · exact (hy k).pure fun X hx hby hown hZ eT t q => Jvm.RoadKit.acmp X hx rfl h1 h2 (pc0 := pc) (same := false) rfl (hb hby hd) rfl (decide_eq_false k) ho (by simp [acV, hp, hp2]) q
theorem WP.getF {i : Nat} {R0 O n d host : String} {a : Addr} {v : Value} (hd : decode code pc = .ok (.getfield i, 3)) (hp : pc + 3 = pc') (w : (Jvm.Cond.fieldLink own i R0 n d).before a0 Z = true ∨ (Jvm.Cond.fieldLinkNest own i R0 n d host).before a0 Z = true) (via : Via Z R0 O n d) (F : Fld Z h a O n d v) (hr : WPG C Z code ml own rt nm R n0 G cl sl h pc' Ls (v :: st)) : WPG C Z code ml own rt nm R n0 G cl sl h pc Ls (.ref a :: st) := by
  subst hp
  refine hr.step fun X hx hby hml hown hZ hnm eT N => ?_
  obtain ⟨T', X', e', k⟩ := RoadKit.getF X hx hZ hown w via eT F (g := mkF _ pc Ls (.ref a :: st)) rfl rfl (hb hby hd)
  exact ⟨T', _, X', e', N, fun t q => k t q⟩
theorem WP.getS {i : Nat} {R0 O n d host : String} {v : Value} (hd : decode code pc = .ok (.getstatic i, 3)) (hp : pc + 3 = pc') (w : (Jvm.Cond.fieldLink own i R0 n d).before a0 Z = true ∨ (Jvm.Cond.fieldLinkNest own i R0 n d host).before a0 Z = true) (via : Via Z R0 O n d) (F : Sta Z h O n d v) (hr : WPG C Z code ml own rt nm R n0 G cl sl h pc' Ls (v :: st)) : WPG C Z code ml own rt nm R n0 G cl sl h pc Ls st := by
  subst hp
  refine hr.step fun X hx hby hml hown hZ hnm eT N => ?_
  obtain ⟨T', X', e', k⟩ := getS2 X hx hZ hown w via eT F (g := mkF _ pc Ls st) rfl (hb hby hd)
  exact ⟨T', _, X', e', N, fun t q => k t q⟩
theorem WP.putF {i kk : Nat} {R0 O n d host K : String} {ty : FieldType} {a : Addr} {v old : Value} (hd : decode code pc = .ok (.putfield i, 3)) (hp : pc + 3 = pc') (w : (Jvm.Cond.fieldLink own i R0 n d).before a0 Z = true ∨ (Jvm.Cond.fieldLinkNest own i R0 n d host).before a0 Z = true) (via : Via Z R0 O n d) (F : Fld Z h a O n d old) (E : Exa Z h a K) (L : (Jvm.Cond.lays K O n d).before a0 Z = true ∨ ((Jvm.Cond.laysFinal K O n d).before a0 Z = true ∧ own = O ∧ nm = "<init>")) (wi : (Jvm.Cond.instantiable K kk).before a0 Z = true)
    (hty : parseFieldDescriptor d = some ty) (hn : narrow ty v = v) (hf : fits ty v = true) (ge : n0 ≤ a) (hr : ∀ h', Wr h h' a (Jvm.RoadKit.slotOf Z O n d) v → WPG C Z code ml own rt nm R n0 G cl sl h' pc' Ls st) : WPG C Z code ml own rt nm R n0 G cl sl h pc Ls (v :: .ref a :: st) := by
  subst hp
  intro k1 k2 k3 k4 k5 k6 k7 k8 T locs X e N
  obtain ⟨T', h', X', e', W', k⟩ := RoadKit.putF X k1 k5 k4 w via e F E (L.imp id fun z => ⟨z.1, z.2.1, k8.trans z.2.2⟩) wi hty hn hf (g := mkF _ pc Ls (v :: .ref a :: st)) rfl rfl (hb k2 hd)
  obtain ⟨s₂, v', L', h1, h2⟩ := hr h' W' k1 k2 k3 k4 k5 k6 k7 k8 T' _ X' e' (Fr.snoc X' N ge)
  exact ⟨s₂, v', L', k _ h1, h2⟩
theorem WP.putFN {i kk : Nat} {R0 O n d K : String} {ty : FieldType} {a : Addr} {v v' old : Value} (hd : decode code pc = .ok (.putfield i, 3)) (hp : pc + 3 = pc') (w : (Jvm.Cond.fieldLink own i R0 n d).before a0 Z = true) (via : Via Z R0 O n d) (F : Fld Z h a O n d old) (E : Exa Z h a K) (L : (Jvm.Cond.lays K O n d).before a0 Z = true ∨ ((Jvm.Cond.laysFinal K O n d).before a0 Z = true ∧ own = O ∧ nm = "<init>")) (wi : (Jvm.Cond.instantiable K kk).before a0 Z = true)
    (hty : parseFieldDescriptor d = some ty) (hn : narrow ty v = v') (hf : fits ty v' = true) (ge : n0 ≤ a) (hr : ∀ h', Wr h h' a (Jvm.RoadKit.slotOf Z O n d) v' → WPG C Z code ml own rt nm R n0 G cl sl h' pc' Ls st) : WPG C Z code ml own rt nm R n0 G cl sl h pc Ls (v :: .ref a :: st) := by
  subst hp
  intro k1 k2 k3 k4 k5 k6 k7 k8 T locs X e N
  obtain ⟨T', h', X', e', W', k⟩ := RoadKit.putFN X k1 k5 k4 w via e F E (L.imp id fun z => ⟨z.1, z.2.1, k8.trans z.2.2⟩) wi hty hn hf (g := mkF _ pc Ls (v :: .ref a :: st)) rfl rfl (hb k2 hd)
  obtain ⟨s₂, v'', L', h1, h2⟩ := hr h' W' k1 k2 k3 k4 k5 k6 k7 k8 T' _ X' e' (Fr.snoc X' N ge)
  exact ⟨s₂, v'', L', k _ h1, h2⟩
theorem WP.newO {i n : Nat} {K : String} {cl' sl' : Nat} (hd : decode code pc = .ok (.new i, 3)) (hp : pc + 3 = pc') (w : (Jvm.Cond.classLink own i K).before a0 Z = true) (wi : (Jvm.Cond.instantiable K n).before a0 Z = true) (wz : (Jvm.Cond.initialized K).before a0 Z = true) (hc : cl + 1 = cl') (hs : sl + n = sl') (hc' : cl' ≤ R.cells) (hs' : sl' ≤ R.slots)
    (hr : ∀ h' a, a = h.size → Ext h h' → Exa Z h' a K → (∀ {O nf d : String} {ty : FieldType}, Laid Z a0 K O nf d → parseFieldDescriptor d = some ty → Fld Z h' a O nf d (defaultValue ty)) → WPG C Z code ml own rt nm R n0 G cl' sl' h' pc' Ls (.ref a :: st)) : WPG C Z code ml own rt nm R n0 G cl sl h pc Ls st := by
  subst hp hc hs
  intro k1 k2 k3 k4 k5 k6 k7 k8 T locs X e N
  obtain ⟨T', h', X', e', E', A', D', -, k⟩ := RoadKit.newO X k1 k5 k4 w wi wz e (g := mkF _ pc Ls st) rfl (hb k2 hd) hc' hs'
  obtain ⟨s₂, v', L', h1, h2⟩ := hr h' _ rfl E' A' D' k1 k2 k3 k4 k5 k6 k7 k8 T' _ X' e' N
  exact ⟨s₂, v', L', k _ h1, h2⟩
theorem WP.checkcast {i : Nat} {K : String} {a : Addr} (hd : decode code pc = .ok (.checkcast i, 3)) (hp : pc + 3 = pc') (w : (Jvm.Cond.classLink own i K).before a0 Z = true) (F : Ins Z h a K true) (hr : WPG C Z code ml own rt nm R n0 G cl sl h pc' Ls (.ref a :: st)) : WPG C Z code ml own rt nm R n0 G cl sl h pc Ls (.ref a :: st) := by
  subst hp
  refine hr.step fun X hx hby hml hown hZ hnm eT N => ?_
  obtain ⟨T', X', e', k⟩ := castY X hx hZ hown w eT F (g := mkF _ pc Ls (.ref a :: st)) rfl rfl (hb hby hd)
  exact ⟨T', _, X', e', N, fun t q => k t q⟩
theorem WP.instanceof {i : Nat} {K : String} {a : Addr} (hd : decode code pc = .ok (.instanceof i, 3)) (hp : pc + 3 = pc') (w : (Jvm.Cond.classLink own i K).before a0 Z = true) (F : Ins Z h a K true) (hr : WPG C Z code ml own rt nm R n0 G cl sl h pc' Ls (.int 1 :: st)) : WPG C Z code ml own rt nm R n0 G cl sl h pc Ls (.ref a :: st) := by
  subst hp
  refine hr.step fun X hx hby hml hown hZ hnm eT N => ?_
  obtain ⟨T', X', e', k⟩ := instY X hx hZ hown w eT F (g := mkF _ pc Ls (.ref a :: st)) rfl rfl (hb hby hd)
  exact ⟨T', _, X', e', N, fun t q => k t q⟩
/-- an array of n elements, the i-th is f i -/
def Arf (Z : State) (h : Heap) (a : Addr) (ty : FieldType) (n : Nat) (f : Nat → Value) : Prop := ∃ c : Cell, Arr Z h a c ty ∧ c.slots.size = n ∧ n < 2147483648 ∧ (∀ i, i < n → c.slots[i]? = some (f i)) ∧ ∀ i, i < n → fits ty (f i) = true
theorem Arf.lt {a : Addr} {ty : FieldType} {n : Nat} {f : Nat → Value} (A : Arf Z h a ty n f) : a < h.size := by obtain ⟨c, A, -⟩ := A; exact A.lt
theorem Arf.small {a : Addr} {ty : FieldType} {n : Nat} {f : Nat → Value} (A : Arf Z h a ty n f) : n < 2147483648 := by obtain ⟨c, -, -, h, -⟩ := A; exact h
theorem Arf.keep {h' : Heap} {ws : List Addr} {a : Addr} {ty : FieldType} {n : Nat} {f : Nat → Value} (A : Arf Z h a ty n f) (K : Keep h h' ws) (q : a ∉ ws) : Arf Z h' a ty n f := by obtain ⟨c, A, r⟩ := A; exact ⟨c, ⟨K.2.1 a c A.1 q, A.2⟩, r⟩
theorem Arf.ext {h' : Heap} {a : Addr} {ty : FieldType} {n : Nat} {f : Nat → Value} (A : Arf Z h a ty n f) (E : Ext h h') : Arf Z h' a ty n f := by obtain ⟨c, A, r⟩ := A; exact ⟨c, A.ext E, r⟩
theorem Arf.fit {a : Addr} {ty : FieldType} {n : Nat} {f : Nat → Value} (A : Arf Z h a ty n f) {i : Nat} (hi : i < n) : fits ty (f i) = true := by obtain ⟨c, -, -, -, -, r⟩ := A; exact r i hi
theorem Arf.congr {a : Addr} {ty : FieldType} {n : Nat} {f g : Nat → Value} (A : Arf Z h a ty n f) (q : ∀ i, i < n → f i = g i) : Arf Z h a ty n g := by
  obtain ⟨c, A, r1, r2, r3, r4⟩ := A; exact ⟨c, A, r1, r2, fun i hi => by rw [← q i hi]; exact r3 i hi, fun i hi => by rw [← q i hi]; exact r4 i hi⟩
theorem idxN {j : Int32} {i n : Nat} (hi : j.toInt = (i : Int)) (hl : i < n) : ¬ (j < 0 ∨ n ≤ j.toNatClampNeg) ∧ j.toNatClampNeg = i := by
  have e0 : (0 : Int32).toInt = 0 := rfl
  simp only [Int32.lt_iff_toInt_lt, Int32.toNatClampNeg, hi, e0]; omega
theorem WP.baload {a : Addr} {j : Int32} {n : Nat} {f : Nat → Value} {v : Value} (i : Nat) (hd : decode code pc = .ok (.baload, 1)) (hp : pc + 1 = pc') (A : Arf Z h a .byte n f) (hi : j.toInt = (i : Int)) (hl : i < n) (hv : f i = v) (hr : WPG C Z code ml own rt nm R n0 G cl sl h pc' Ls (v :: st)) : WPG C Z code ml own rt nm R n0 G cl sl h pc Ls (.int j :: .ref a :: st) := by
  subst hp hv
  obtain ⟨c, A, r1, r2, r3, r4⟩ := A
  obtain ⟨q1, q2⟩ := idxN hi hl
  exact hr.pure fun X hx hby hown hZ eT t q => X.baloadBytes hx (j := j) (by rw [eT]; exact A.1) (State.isArrayOf_alike hZ.alike A.2.1) A.2.2 (by rw [r1]; exact q1) (by rw [q2]; exact r3 i hl) (g := mkF _ pc Ls (.int j :: .ref a :: st)) rfl rfl (hb hby hd) t q
theorem WP.baloadZ {a : Addr} {j : Int32} {n : Nat} {f : Nat → Value} {v : Value} (i : Nat) (hd : decode code pc = .ok (.baload, 1)) (hp : pc + 1 = pc') (A : Arf Z h a .boolean n f) (hi : j.toInt = (i : Int)) (hl : i < n) (hv : f i = v) (hr : WPG C Z code ml own rt nm R n0 G cl sl h pc' Ls (v :: st)) : WPG C Z code ml own rt nm R n0 G cl sl h pc Ls (.int j :: .ref a :: st) := by
  subst hp hv
  obtain ⟨c, A, r1, r2, r3, r4⟩ := A
  obtain ⟨q1, q2⟩ := idxN hi hl
  exact hr.pure fun X hx hby hown hZ eT t q => X.baloadBooleans hx (j := j) (by rw [eT]; exact A.1) (State.isArrayOf_alike hZ.alike A.2.1) A.2.2 (by rw [r1]; exact q1) (by rw [q2]; exact r3 i hl) (g := mkF _ pc Ls (.int j :: .ref a :: st)) rfl rfl (hb hby hd) t q
theorem WP.caload {a : Addr} {j : Int32} {n : Nat} {f : Nat → Value} {v : Value} (i : Nat) (hd : decode code pc = .ok (.caload, 1)) (hp : pc + 1 = pc') (A : Arf Z h a .char n f) (hi : j.toInt = (i : Int)) (hl : i < n) (hv : f i = v) (hr : WPG C Z code ml own rt nm R n0 G cl sl h pc' Ls (v :: st)) : WPG C Z code ml own rt nm R n0 G cl sl h pc Ls (.int j :: .ref a :: st) := by
  subst hp hv
  obtain ⟨c, A, r1, r2, r3, r4⟩ := A
  obtain ⟨q1, q2⟩ := idxN hi hl
  exact hr.pure fun X hx hby hown hZ eT t q => X.caload hx (j := j) (by rw [eT]; exact A.1) (State.isArrayOf_alike hZ.alike A.2.1) A.2.2 (by rw [r1]; exact q1) (by rw [q2]; exact r3 i hl) (g := mkF _ pc Ls (.int j :: .ref a :: st)) rfl rfl (hb hby hd) t q
theorem WP.iaload {a : Addr} {j : Int32} {n : Nat} {f : Nat → Value} {v : Value} (i : Nat) (hd : decode code pc = .ok (.iaload, 1)) (hp : pc + 1 = pc') (A : Arf Z h a .int n f) (hi : j.toInt = (i : Int)) (hl : i < n) (hv : f i = v) (hr : WPG C Z code ml own rt nm R n0 G cl sl h pc' Ls (v :: st)) : WPG C Z code ml own rt nm R n0 G cl sl h pc Ls (.int j :: .ref a :: st) := by
  subst hp hv
  obtain ⟨c, A, r1, r2, r3, r4⟩ := A
  obtain ⟨q1, q2⟩ := idxN hi hl
  exact hr.pure fun X hx hby hown hZ eT t q => X.iaload hx (j := j) (by rw [eT]; exact A.1) (State.isArrayOf_alike hZ.alike A.2.1) A.2.2 (by rw [r1]; exact q1) (by rw [q2]; exact r3 i hl) (g := mkF _ pc Ls (.int j :: .ref a :: st)) rfl rfl (hb hby hd) t q
theorem WP.laload {a : Addr} {j : Int32} {n : Nat} {f : Nat → Value} {v : Value} (i : Nat) (hd : decode code pc = .ok (.laload, 1)) (hp : pc + 1 = pc') (A : Arf Z h a .long n f) (hi : j.toInt = (i : Int)) (hl : i < n) (hv : f i = v) (hr : WPG C Z code ml own rt nm R n0 G cl sl h pc' Ls (v :: st)) : WPG C Z code ml own rt nm R n0 G cl sl h pc Ls (.int j :: .ref a :: st) := by
  subst hp hv
  obtain ⟨c, A, r1, r2, r3, r4⟩ := A
  obtain ⟨q1, q2⟩ := idxN hi hl
  exact hr.pure fun X hx hby hown hZ eT t q => X.laload hx (j := j) (by rw [eT]; exact A.1) (State.isArrayOf_alike hZ.alike A.2.1) A.2.2 (by rw [r1]; exact q1) (by rw [q2]; exact r3 i hl) (g := mkF _ pc Ls (.int j :: .ref a :: st)) rfl rfl (hb hby hd) t q
theorem WP.saload {a : Addr} {j : Int32} {n : Nat} {f : Nat → Value} {v : Value} (i : Nat) (hd : decode code pc = .ok (.saload, 1)) (hp : pc + 1 = pc') (A : Arf Z h a .short n f) (hi : j.toInt = (i : Int)) (hl : i < n) (hv : f i = v) (hr : WPG C Z code ml own rt nm R n0 G cl sl h pc' Ls (v :: st)) : WPG C Z code ml own rt nm R n0 G cl sl h pc Ls (.int j :: .ref a :: st) := by
  subst hp hv
  obtain ⟨c, A, r1, r2, r3, r4⟩ := A
  obtain ⟨q1, q2⟩ := idxN hi hl
  exact hr.pure fun X hx hby hown hZ eT t q => X.saload hx (j := j) (by rw [eT]; exact A.1) (State.isArrayOf_alike hZ.alike A.2.1) A.2.2 (by rw [r1]; exact q1) (by rw [q2]; exact r3 i hl) (g := mkF _ pc Ls (.int j :: .ref a :: st)) rfl rfl (hb hby hd) t q
theorem WP.aaload {a : Addr} {j : Int32} {n : Nat} {f : Nat → Value} {v : Value} {ty : FieldType} (i : Nat) (hd : decode code pc = .ok (.aaload, 1)) (hp : pc + 1 = pc') (A : Arf Z h a ty n f) (hty : ty.isReference = true) (hi : j.toInt = (i : Int)) (hl : i < n) (hv : f i = v) (hr : WPG C Z code ml own rt nm R n0 G cl sl h pc' Ls (v :: st)) : WPG C Z code ml own rt nm R n0 G cl sl h pc Ls (.int j :: .ref a :: st) := by
  subst hp hv
  obtain ⟨c, A, r1, r2, r3, r4⟩ := A
  obtain ⟨q1, q2⟩ := idxN hi hl
  exact hr.pure fun X hx hby hown hZ eT t q => X.aaload hx (j := j) (by rw [eT]; exact A.1) (State.isArrayOf_alike hZ.alike A.2.1) hty A.2.2 (by rw [r1]; exact q1) (by rw [q2]; exact r3 i hl) (g := mkF _ pc Ls (.int j :: .ref a :: st)) rfl rfl (hb hby hd) t q
theorem WP.arraylength {a : Addr} {n : Nat} {f : Nat → Value} {ty : FieldType} {z : Int32} (hd : decode code pc = .ok (.arraylength, 1)) (hp : pc + 1 = pc') (A : Arf Z h a ty n f) (hz : n.toInt32 = z) (hr : WPG C Z code ml own rt nm R n0 G cl sl h pc' Ls (.int z :: st)) : WPG C Z code ml own rt nm R n0 G cl sl h pc Ls (.ref a :: st) := by
  subst hp hz
  obtain ⟨c, A, r1, r2, r3, r4⟩ := A
  exact hr.pure fun X hx hby hown hZ eT t q => X.arraylength hx (by rw [eT]; exact A.1) (State.isArrayOf_alike hZ.alike A.2.1) (g := mkF _ pc Ls (.ref a :: st)) rfl rfl (hb hby hd) t (by rw [r1]; exact q)
theorem Arf.set {h' : Heap} {a : Addr} {ty : FieldType} {n : Nat} {f : Nat → Value} {c : Cell} {v : Value} {j : Int32} {i : Nat} (A : Arr Z h a c ty) (r1 : c.slots.size = n) (r2 : n < 2147483648) (r3 : ∀ i, i < n → c.slots[i]? = some (f i)) (r4 : ∀ i, i < n → fits ty (f i) = true) (hv : fits ty v = true) (W : Wr h h' a j.toNatClampNeg v) (hj : j.toNatClampNeg = i) (hl : i < n) : Arf Z h' a ty n (fun k => if k = i then v else f k) := by
  subst hj
  refine ⟨_, A.same W, by rw [sz_set]; exact r1, r2, fun k hk => ?_, fun k hk => ?_⟩
  · by_cases e : k = j.toNatClampNeg
    · show _ = some (if k = j.toNatClampNeg then v else f k)
      rw [if_pos e, e]; simp [Cell.setSlot, r1, hl]
    · show _ = some (if k = j.toNatClampNeg then v else f k)
      rw [if_neg e, ← r3 k hk]; exact Array.getElem?_setIfInBounds_ne (Ne.symm e)
  · by_cases e : k = j.toNatClampNeg
    · simp only [if_pos e]; exact hv
    · simp only [if_neg e]; exact r4 k hk
theorem WP.bastore {a : Addr} {j : Int32} {x : Int32} {n : Nat} {f : Nat → Value} (i : Nat) (hd : decode code pc = .ok (.bastore, 1)) (hp : pc + 1 = pc') (A : Arf Z h a .byte n f) (hi : j.toInt = (i : Int)) (hl : i < n) (ge : n0 ≤ a) (hr : ∀ h', Keep h h' [a] → Arf Z h' a .byte n (fun k => if k = i then .int (nar .byte x) else f k) → WPG C Z code ml own rt nm R n0 G cl sl h' pc' Ls st) : WPG C Z code ml own rt nm R n0 G cl sl h pc Ls (.int x :: .int j :: .ref a :: st) := by
  subst hp
  obtain ⟨c, A, r1, r2, r3, r4⟩ := A
  obtain ⟨q1, q2⟩ := idxN hi hl
  intro k1 k2 k3 k4 k5 k6 k7 k8 T locs X e N
  obtain ⟨T', h', X', e', W', k⟩ := stB X k1 k5 e A (j := j) (x := x) (by rw [r1]; exact q1) (g := mkF _ pc Ls (.int x :: .int j :: .ref a :: st)) rfl rfl (hb k2 hd)
  obtain ⟨s₂, v', L', h1, h2⟩ := hr h' (Keep.of_wr W') (Arf.set A r1 r2 r3 r4 (fits_nar_byte x) W' q2 hl) k1 k2 k3 k4 k5 k6 k7 k8 T' _ X' e' (Fr.snoc X' N ge)
  exact ⟨s₂, v', L', k _ h1, h2⟩
theorem WP.castore {a : Addr} {j : Int32} {x : Int32} {n : Nat} {f : Nat → Value} (i : Nat) (hd : decode code pc = .ok (.castore, 1)) (hp : pc + 1 = pc') (A : Arf Z h a .char n f) (hi : j.toInt = (i : Int)) (hl : i < n) (ge : n0 ≤ a) (hr : ∀ h', Keep h h' [a] → Arf Z h' a .char n (fun k => if k = i then .int (nar .char x) else f k) → WPG C Z code ml own rt nm R n0 G cl sl h' pc' Ls st) : WPG C Z code ml own rt nm R n0 G cl sl h pc Ls (.int x :: .int j :: .ref a :: st) := by
  subst hp
  obtain ⟨c, A, r1, r2, r3, r4⟩ := A
  obtain ⟨q1, q2⟩ := idxN hi hl
  intro k1 k2 k3 k4 k5 k6 k7 k8 T locs X e N
  obtain ⟨T', h', X', e', W', k⟩ := stC X k1 k5 e A (j := j) (x := x) (by rw [r1]; exact q1) (g := mkF _ pc Ls (.int x :: .int j :: .ref a :: st)) rfl rfl (hb k2 hd)
  obtain ⟨s₂, v', L', h1, h2⟩ := hr h' (Keep.of_wr W') (Arf.set A r1 r2 r3 r4 (fits_nar_char x) W' q2 hl) k1 k2 k3 k4 k5 k6 k7 k8 T' _ X' e' (Fr.snoc X' N ge)
  exact ⟨s₂, v', L', k _ h1, h2⟩
theorem WP.iastore {a : Addr} {j : Int32} {x : Int32} {n : Nat} {f : Nat → Value} (i : Nat) (hd : decode code pc = .ok (.iastore, 1)) (hp : pc + 1 = pc') (A : Arf Z h a .int n f) (hi : j.toInt = (i : Int)) (hl : i < n) (ge : n0 ≤ a) (hr : ∀ h', Keep h h' [a] → Arf Z h' a .int n (fun k => if k = i then .int x else f k) → WPG C Z code ml own rt nm R n0 G cl sl h' pc' Ls st) : WPG C Z code ml own rt nm R n0 G cl sl h pc Ls (.int x :: .int j :: .ref a :: st) := by
  subst hp
  obtain ⟨c, A, r1, r2, r3, r4⟩ := A
  obtain ⟨q1, q2⟩ := idxN hi hl
  intro k1 k2 k3 k4 k5 k6 k7 k8 T locs X e N
  obtain ⟨T', h', X', e', W', k⟩ := stI X k1 k5 e A (j := j) (x := x) (by rw [r1]; exact q1) (g := mkF _ pc Ls (.int x :: .int j :: .ref a :: st)) rfl rfl (hb k2 hd)
  obtain ⟨s₂, v', L', h1, h2⟩ := hr h' (Keep.of_wr W') (Arf.set A r1 r2 r3 r4 rfl W' q2 hl) k1 k2 k3 k4 k5 k6 k7 k8 T' _ X' e' (Fr.snoc X' N ge)
  exact ⟨s₂, v', L', k _ h1, h2⟩
theorem WP.lastore {a : Addr} {j : Int32} {x : Int64} {n : Nat} {f : Nat → Value} (i : Nat) (hd : decode code pc = .ok (.lastore, 1)) (hp : pc + 1 = pc') (A : Arf Z h a .long n f) (hi : j.toInt = (i : Int)) (hl : i < n) (ge : n0 ≤ a) (hr : ∀ h', Keep h h' [a] → Arf Z h' a .long n (fun k => if k = i then .long x else f k) → WPG C Z code ml own rt nm R n0 G cl sl h' pc' Ls st) : WPG C Z code ml own rt nm R n0 G cl sl h pc Ls (.long x :: .int j :: .ref a :: st) := by
  subst hp
  obtain ⟨c, A, r1, r2, r3, r4⟩ := A
  obtain ⟨q1, q2⟩ := idxN hi hl
  intro k1 k2 k3 k4 k5 k6 k7 k8 T locs X e N
  obtain ⟨T', h', X', e', W', k⟩ := stJ X k1 k5 e A (j := j) (x := x) (by rw [r1]; exact q1) (g := mkF _ pc Ls (.long x :: .int j :: .ref a :: st)) rfl rfl (hb k2 hd)
  obtain ⟨s₂, v', L', h1, h2⟩ := hr h' (Keep.of_wr W') (Arf.set A r1 r2 r3 r4 rfl W' q2 hl) k1 k2 k3 k4 k5 k6 k7 k8 T' _ X' e' (Fr.snoc X' N ge)
  exact ⟨s₂, v', L', k _ h1, h2⟩
theorem WP.newP {aty : ArrayType} {z : Int32} {n cap : Nat} {cl' sl' : Nat} (hd : decode code pc = .ok (.newarray aty, 2)) (hp : pc + 2 = pc') (w : (Jvm.Cond.arrayClass (newarray.typeOf aty)).before a0 Z = true) (hz : z.toInt = (n : Int)) (hcap : n ≤ cap) (hbig : cap * 8 ≤ 536870912) (hc : cl + 1 = cl') (hs : sl + cap = sl') (hc' : cl' ≤ R.cells) (hs' : sl' ≤ R.slots)
    (hr : ∀ h' a, a = h.size → Ext h h' → Arf Z h' a (newarray.typeOf aty) n (fun _ => defaultValue (newarray.typeOf aty)) → WPG C Z code ml own rt nm R n0 G cl' sl' h' pc' Ls (.ref a :: st)) : WPG C Z code ml own rt nm R n0 G cl sl h pc Ls (.int z :: st) := by
  subst hp hc hs
  have e0 : (0 : Int32).toInt = 0 := rfl
  have hzn : z.toNatClampNeg = n := by simp only [Int32.toNatClampNeg, hz]; omega
  have hzl : n < 2147483648 := by have := z.toInt_lt; omega
  intro k1 k2 k3 k4 k5 k6 k7 k8 T locs X e N
  obtain ⟨T', h', cA, X', e', E', A', k⟩ := RoadKit.newP X k1 k5 w e (g := mkF _ pc Ls (.int z :: st)) rfl (hb k2 hd) rfl (by rw [Int32.lt_iff_toInt_lt, hz, e0]; omega) (cap := cap) (by rw [hzn]; exact hcap) hbig hc' hs'
  obtain ⟨s₂, v', L', h1, h2⟩ := hr h' _ rfl E' ⟨_, A', by rw [sz_new, hzn], hzl, fun i hi => by simp [newA, hzn, hi], fun i _ => by cases aty <;> rfl⟩ k1 k2 k3 k4 k5 k6 k7 k8 T' _ X' e' N
  exact ⟨s₂, v', L', k _ h1, h2⟩
def updI (g : Nat → Int32) (i : Nat) (x : Int32) : Nat → Int32 := fun k => if k = i then x else g k
def Ari (Z : State) (h : Heap) (a : Addr) (ty : FieldType) (n : Nat) (g : Nat → Int32) : Prop := Arf Z h a ty n (fun i => .int (g i))
theorem Ari.lt {a : Addr} {ty : FieldType} {n : Nat} {g : Nat → Int32} (A : Ari Z h a ty n g) : a < h.size := Arf.lt A
theorem Ari.small {a : Addr} {ty : FieldType} {n : Nat} {g : Nat → Int32} (A : Ari Z h a ty n g) : n < 2147483648 := Arf.small A
theorem Ari.keep {h' : Heap} {ws : List Addr} {a : Addr} {ty : FieldType} {n : Nat} {g : Nat → Int32} (A : Ari Z h a ty n g) (K : Keep h h' ws) (q : a ∉ ws) : Ari Z h' a ty n g := Arf.keep A K q
theorem Ari.ext {h' : Heap} {a : Addr} {ty : FieldType} {n : Nat} {g : Nat → Int32} (A : Ari Z h a ty n g) (E : Ext h h') : Ari Z h' a ty n g := Arf.ext A E
theorem Ari.congr {a : Addr} {ty : FieldType} {n : Nat} {f g : Nat → Int32} (A : Ari Z h a ty n f) (q : ∀ i, i < n → f i = g i) : Ari Z h a ty n g := Arf.congr A fun i hi => congrArg Value.int (q i hi)
theorem upd_at (g : Nat → Int32) (i : Nat) (x : Int32) : updI g i x i = x := if_pos rfl
theorem upd_ne {g : Nat → Int32} {i k : Nat} {x : Int32} (q : k ≠ i) : updI g i x k = g k := if_neg q
theorem upd_if (g : Nat → Int32) (i : Nat) (x : Int32) : (fun k => if k = i then Value.int x else Value.int (g k)) = fun k => Value.int (updI g i x k) := by funext k; unfold updI; split <;> rfl
theorem litN (z : Int32) (n : Nat) (h : z.toInt = (n : Int)) : z.toInt = (n : Int) := h
theorem WP.baloadI {a : Addr} {j : Int32} {n : Nat} {g : Nat → Int32} {v : Int32} (i : Nat) (hd : decode code pc = .ok (.baload, 1)) (hp : pc + 1 = pc') (A : Ari Z h a .byte n g) (hi : j.toInt = (i : Int)) (hl : i < n) (hv : g i = v) (hr : WPG C Z code ml own rt nm R n0 G cl sl h pc' Ls (.int v :: st)) : WPG C Z code ml own rt nm R n0 G cl sl h pc Ls (.int j :: .ref a :: st) := WP.baload i hd hp A hi hl (congrArg Value.int hv) hr
theorem WP.baloadZI {a : Addr} {j : Int32} {n : Nat} {g : Nat → Int32} {v : Int32} (i : Nat) (hd : decode code pc = .ok (.baload, 1)) (hp : pc + 1 = pc') (A : Ari Z h a .boolean n g) (hi : j.toInt = (i : Int)) (hl : i < n) (hv : g i = v) (hr : WPG C Z code ml own rt nm R n0 G cl sl h pc' Ls (.int v :: st)) : WPG C Z code ml own rt nm R n0 G cl sl h pc Ls (.int j :: .ref a :: st) := WP.baloadZ i hd hp A hi hl (congrArg Value.int hv) hr
theorem WP.caloadI {a : Addr} {j : Int32} {n : Nat} {g : Nat → Int32} {v : Int32} (i : Nat) (hd : decode code pc = .ok (.caload, 1)) (hp : pc + 1 = pc') (A : Ari Z h a .char n g) (hi : j.toInt = (i : Int)) (hl : i < n) (hv : g i = v) (hr : WPG C Z code ml own rt nm R n0 G cl sl h pc' Ls (.int v :: st)) : WPG C Z code ml own rt nm R n0 G cl sl h pc Ls (.int j :: .ref a :: st) := WP.caload i hd hp A hi hl (congrArg Value.int hv) hr
theorem WP.ialoadI {a : Addr} {j : Int32} {n : Nat} {g : Nat → Int32} {v : Int32} (i : Nat) (hd : decode code pc = .ok (.iaload, 1)) (hp : pc + 1 = pc') (A : Ari Z h a .int n g) (hi : j.toInt = (i : Int)) (hl : i < n) (hv : g i = v) (hr : WPG C Z code ml own rt nm R n0 G cl sl h pc' Ls (.int v :: st)) : WPG C Z code ml own rt nm R n0 G cl sl h pc Ls (.int j :: .ref a :: st) := WP.iaload i hd hp A hi hl (congrArg Value.int hv) hr
theorem WP.saloadI {a : Addr} {j : Int32} {n : Nat} {g : Nat → Int32} {v : Int32} (i : Nat) (hd : decode code pc = .ok (.saload, 1)) (hp : pc + 1 = pc') (A : Ari Z h a .short n g) (hi : j.toInt = (i : Int)) (hl : i < n) (hv : g i = v) (hr : WPG C Z code ml own rt nm R n0 G cl sl h pc' Ls (.int v :: st)) : WPG C Z code ml own rt nm R n0 G cl sl h pc Ls (.int j :: .ref a :: st) := WP.saload i hd hp A hi hl (congrArg Value.int hv) hr
theorem WP.bastoreI {a : Addr} {j x x' : Int32} {n : Nat} {g : Nat → Int32} (i : Nat) (hd : decode code pc = .ok (.bastore, 1)) (hp : pc + 1 = pc') (A : Ari Z h a .byte n g) (hi : j.toInt = (i : Int)) (hl : i < n) (ge : n0 ≤ a) (hx : nar .byte x = x') (hr : ∀ h', Keep h h' [a] → Ari Z h' a .byte n (updI g i x') → WPG C Z code ml own rt nm R n0 G cl sl h' pc' Ls st) : WPG C Z code ml own rt nm R n0 G cl sl h pc Ls (.int x :: .int j :: .ref a :: st) := by
  subst hx
  exact WP.bastore i hd hp A hi hl ge fun h' K A' => hr h' K (by unfold Ari; rw [← upd_if]; exact A')
theorem WP.castoreI {a : Addr} {j x x' : Int32} {n : Nat} {g : Nat → Int32} (i : Nat) (hd : decode code pc = .ok (.castore, 1)) (hp : pc + 1 = pc') (A : Ari Z h a .char n g) (hi : j.toInt = (i : Int)) (hl : i < n) (ge : n0 ≤ a) (hx : nar .char x = x') (hr : ∀ h', Keep h h' [a] → Ari Z h' a .char n (updI g i x') → WPG C Z code ml own rt nm R n0 G cl sl h' pc' Ls st) : WPG C Z code ml own rt nm R n0 G cl sl h pc Ls (.int x :: .int j :: .ref a :: st) := by
  subst hx
  exact WP.castore i hd hp A hi hl ge fun h' K A' => hr h' K (by unfold Ari; rw [← upd_if]; exact A')
theorem WP.iastoreI {a : Addr} {j x x' : Int32} {n : Nat} {g : Nat → Int32} (i : Nat) (hd : decode code pc = .ok (.iastore, 1)) (hp : pc + 1 = pc') (A : Ari Z h a .int n g) (hi : j.toInt = (i : Int)) (hl : i < n) (ge : n0 ≤ a) (hx : x = x') (hr : ∀ h', Keep h h' [a] → Ari Z h' a .int n (updI g i x') → WPG C Z code ml own rt nm R n0 G cl sl h' pc' Ls st) : WPG C Z code ml own rt nm R n0 G cl sl h pc Ls (.int x :: .int j :: .ref a :: st) := by
  subst hx
  exact WP.iastore i hd hp A hi hl ge fun h' K A' => hr h' K (by unfold Ari; rw [← upd_if]; exact A')
theorem WP.newPI {aty : ArrayType} {ty : FieldType} {z : Int32} {n cap : Nat} {cl' sl' : Nat} (hd : decode code pc = .ok (.newarray aty, 2)) (hp : pc + 2 = pc') (hty : newarray.typeOf aty = ty) (hdv : defaultValue ty = .int 0) (w : (Jvm.Cond.arrayClass ty).before a0 Z = true) (hz : z.toInt = (n : Int)) (hcap : n ≤ cap) (hbig : cap * 8 ≤ 536870912) (hc : cl + 1 = cl') (hs : sl + cap = sl') (hc' : cl' ≤ R.cells) (hs' : sl' ≤ R.slots)
    (hr : ∀ h' a, a = h.size → Ext h h' → Ari Z h' a ty n (fun _ => 0) → WPG C Z code ml own rt nm R n0 G cl' sl' h' pc' Ls (.ref a :: st)) : WPG C Z code ml own rt nm R n0 G cl sl h pc Ls (.int z :: st) := by
  subst hty
  exact WP.newP hd hp w hz hcap hbig hc hs hc' hs' fun h' a e E A => hr h' a e E (by rw [hdv] at A; exact A)
theorem WP.arraylengthI {a : Addr} {n : Nat} {g : Nat → Int32} {ty : FieldType} {z : Int32} (hd : decode code pc = .ok (.arraylength, 1)) (hp : pc + 1 = pc') (A : Ari Z h a ty n g) (hz : n.toInt32 = z) (hr : WPG C Z code ml own rt nm R n0 G cl sl h pc' Ls (.int z :: st)) : WPG C Z code ml own rt nm R n0 G cl sl h pc Ls (.ref a :: st) := WP.arraylength hd hp A hz hr
/-- the array's class is that of arrays of C -/
def Ocl (Z : State) (h : Heap) (a : Addr) (K : String) : Prop := ∃ c : Cell, h[a]? = some c ∧ Ovr Z c.cls K
theorem Ocl.ext {h' : Heap} {a : Addr} {K : String} (O : Ocl Z h a K) (E : Ext h h') : Ocl Z h' a K := by obtain ⟨c, h1, h2⟩ := O; exact ⟨c, E.2 _ _ h1, h2⟩
theorem Ocl.keep {h' : Heap} {ws : List Addr} {a : Addr} {K : String} (O : Ocl Z h a K) (E : Keep h h' ws) : Ocl Z h' a K := by
  obtain ⟨c, h1, h2⟩ := O
  obtain ⟨c', q1, q2, -⟩ := E.2.2 _ _ h1
  exact ⟨c', q1, by rw [q2]; exact h2⟩
theorem Ocl.sto {a y : Addr} {K : String} {ty : FieldType} {n : Nat} {f : Nat → Value} (O : Ocl Z h a K) (A : Arf Z h a ty n f) (I : Ins Z h y K true) : Sto Z h a (.ref y) := by
  obtain ⟨c, h1, h2⟩ := O
  obtain ⟨c', A, -⟩ := A
  cases h1.symm.trans A.1
  exact Sto.of A h2 I
def updV (g : Nat → Value) (i : Nat) (x : Value) : Nat → Value := fun k => if k = i then x else g k
theorem WP.newR {i n cap : Nat} {K : String} {z : Int32} {cl' sl' : Nat} (hd : decode code pc = .ok (.anewarray i, 3)) (hp : pc + 3 = pc') (w1 : (Jvm.Cond.classLink own i K).before a0 Z = true) (w2 : (Jvm.Cond.arrayOver (.object K)).before a0 Z = true) (hz : z.toInt = (n : Int)) (hcap : n ≤ cap) (hbig : cap * 8 ≤ 536870912) (hc : cl + 1 = cl') (hs : sl + cap = sl') (hc' : cl' ≤ R.cells) (hs' : sl' ≤ R.slots)
    (hr : ∀ h' a, a = h.size → Ext h h' → Arf Z h' a (.object K) n (fun _ => .null) → Ocl Z h' a K → WPG C Z code ml own rt nm R n0 G cl' sl' h' pc' Ls (.ref a :: st)) : WPG C Z code ml own rt nm R n0 G cl sl h pc Ls (.int z :: st) := by
  subst hp hc hs
  have e0 : (0 : Int32).toInt = 0 := rfl
  have hzn : z.toNatClampNeg = n := by simp only [Int32.toNatClampNeg, hz]; omega
  have hzl : n < 2147483648 := by have := z.toInt_lt; omega
  intro k1 k2 k3 k4 k5 k6 k7 k8 T locs X e N
  obtain ⟨T', h', cA, X', e', E', A', O', k⟩ := RoadKit.newR X k1 k5 k4 w1 w2 e (g := mkF _ pc Ls (.int z :: st)) rfl (hb k2 hd) rfl (by rw [Int32.lt_iff_toInt_lt, hz, e0]; omega) (cap := cap) (by rw [hzn]; exact hcap) hbig hc' hs'
  obtain ⟨s₂, v', L', h1, h2⟩ := hr h' _ rfl E' ⟨_, A', by rw [sz_new, hzn], hzl, fun i hi => by simp [newA, hzn, hi, defaultValue], fun i _ => rfl⟩ ⟨_, A'.1, O'⟩ k1 k2 k3 k4 k5 k6 k7 k8 T' _ X' e' N
  exact ⟨s₂, v', L', k _ h1, h2⟩
theorem WP.aastore {a : Addr} {j : Int32} {x : Value} {n : Nat} {f : Nat → Value} {ty : FieldType} (i : Nat) (hd : decode code pc = .ok (.aastore, 1)) (hp : pc + 1 = pc') (A : Arf Z h a ty n f) (hty : ty.isReference = true) (F : Sto Z h a x) (hf : fits ty x = true) (hi : j.toInt = (i : Int)) (hl : i < n) (ge : n0 ≤ a) (hr : ∀ h', Keep h h' [a] → Arf Z h' a ty n (updV f i x) → WPG C Z code ml own rt nm R n0 G cl sl h' pc' Ls st) : WPG C Z code ml own rt nm R n0 G cl sl h pc Ls (x :: .int j :: .ref a :: st) := by
  subst hp
  obtain ⟨c, A, r1, r2, r3, r4⟩ := A
  obtain ⟨q1, q2⟩ := idxN hi hl
  intro k1 k2 k3 k4 k5 k6 k7 k8 T locs X e N
  obtain ⟨T', h', X', e', W', k⟩ := stR X k1 k5 e A (j := j) (by rw [r1]; exact q1) hty F (g := mkF _ pc Ls (x :: .int j :: .ref a :: st)) rfl rfl (hb k2 hd)
  obtain ⟨s₂, v', L', h1, h2⟩ := hr h' (Keep.of_wr W') (Arf.set A r1 r2 r3 r4 hf W' q2 hl) k1 k2 k3 k4 k5 k6 k7 k8 T' _ X' e' (Fr.snoc X' N ge)
  exact ⟨s₂, v', L', k _ h1, h2⟩
theorem getD_range {f : Nat → Int32} {m n : Nat} (h : m < n) : ((List.range n).map fun i => Value.int (f i)).getD m (.int 0) = .int (f m) := by
  simp [List.getD_eq_getElem?_getD, h]
theorem Ari.arv {a : Addr} {ty : FieldType} {n : Nat} {g : Nat → Int32} (A : Ari Z h a ty n g) : ∃ (k : ClassId) (z : Int32), z.toNatClampNeg = n ∧ Arv Z h a k ty z ((List.range n).map fun i => Value.int (g i)) (.int 0) := by
  obtain ⟨c, A, r1, r2, r3, r4⟩ := A
  have e1 : n.toInt32.toInt = (n : Int) := len_toInt r2
  have e0 : (0 : Int32).toInt = 0 := rfl
  have e2 : n.toInt32.toNatClampNeg = n := by simp only [Int32.toNatClampNeg, e1]; omega
  refine ⟨c.cls, n.toInt32, e2, c, A, rfl, by rw [e2]; exact r1, by rw [Int32.lt_iff_toInt_lt, e1, e0]; omega, fun i hi => ?_, fun i hi => ?_⟩
  · rw [r1] at hi; rw [getD_range hi]; exact r3 i hi
  · rw [r1] at hi; rw [getD_range hi]; exact r4 i hi
/-- n elements of f from sp on, laid into g from dp on -/
def blit (f g : Nat → Int32) (sp dp n : Nat) : Nat → Int32 := fun k => if dp ≤ k ∧ k < dp + n then f (sp + (k - dp)) else g k
theorem WP.arraycopy {i : Nat} {a b : Addr} {ty : FieldType} {na nb sp dp nn wd : Nat} {zs zd zn : Int32} {f g : Nat → Int32} (hd : decode code pc = .ok (.invokestatic i, 3)) (hp : pc + 3 = pc') (w1 : (Jvm.Cond.methodLink own i Jvm.Stand.acN).before a0 Z = true) (w2 : (Jvm.Cond.native Jvm.Stand.acN).before a0 Z = true) (w3 : (Jvm.Cond.static Jvm.Stand.acN).before a0 Z = true) (w4 : (Jvm.Cond.initialized "java/lang/System").before a0 Z = true) (A : Ari Z h a ty na f) (B : Ari Z h b ty nb g) (hty : refKind ty = false) (hs1 : zs.toInt = (sp : Int)) (hd1 : zd.toInt = (dp : Int)) (hn1 : zn.toInt = (nn : Int)) (h4 : sp + nn ≤ na) (h5 : dp + nn ≤ nb) (ge : n0 ≤ b) (hml : Ls.size = ml) (hf : 1 ≤ R.frames) (hw : (st.map fun v => v.category).sum ≤ wd) (hlo : wd + (nativeFrameWords "java/lang/System" "arraycopy" 5 + 11) ≤ R.locals)
    (hr : ∀ h', Keep h h' [b] → Ari Z h' b ty nb (blit f g sp dp nn) → WPG C Z code ml own rt nm R n0 G cl sl h' pc' Ls st) : WPG C Z code ml own rt nm R n0 G cl sl h pc Ls (.int zn :: .int zd :: .ref b :: .int zs :: .ref a :: st) := by
  subst hp
  obtain ⟨ka, za, ea, A'⟩ := A.arv
  obtain ⟨kb, zb, eb, B'⟩ := B.arv
  have hsm := B.small
  have e0 : (0 : Int32).toInt = 0 := rfl
  have q1 : zs.toNatClampNeg = sp := by simp only [Int32.toNatClampNeg, hs1]; omega
  have q2 : zd.toNatClampNeg = dp := by simp only [Int32.toNatClampNeg, hd1]; omega
  have q3 : zn.toNatClampNeg = nn := by simp only [Int32.toNatClampNeg, hn1]; omega
  intro k1 k2 k3 k4 k5 k6 k7 k8 T locs X e N
  obtain ⟨T', h', L', X', e', N', K', V', k⟩ := cpA X k1 k5 k4 w1 w2 w3 w4 e (sp := zs) (dp := zd) (nn := zn) A' B' (Or.inl ⟨rfl, hty⟩) (by rw [Int32.lt_iff_toInt_lt, hs1, e0]; omega) (by rw [Int32.lt_iff_toInt_lt, hd1, e0]; omega) (by rw [Int32.lt_iff_toInt_lt, hn1, e0]; omega) (by rw [q1, q3, ea]; exact h4) (by rw [q2, q3, eb]; exact h5) rfl (by rw [q2, q3, List.length_map, List.length_range]; exact h5) N ge (g := mkF _ pc Ls (.int zn :: .int zd :: .ref b :: .int zs :: .ref a :: st)) rfl (by rw [k3]; exact hml) rfl (hb k2 hd) hf (W := wd) (by show 2 * 0 + _ ≤ _; omega) hlo
  rw [q1, q2, q3] at V'
  have VV : Ari Z h' b ty nb (blit f g sp dp nn) := by
    obtain ⟨c, A, r1, r2, r3, H, G⟩ := V'
    rw [eb] at r2
    have key : ∀ i, i < nb → (((List.range nb).map fun i => Value.int (g i)).take dp ++ (List.range nn).map (fun i => ((List.range na).map fun i => Value.int (f i)).getD (sp + i) (.int 0)) ++ ((List.range nb).map fun i => Value.int (g i)).drop (dp + nn)).getD i (.int 0) = .int (blit f g sp dp nn i) := by
      intro i hi
      simp only [List.getD_eq_getElem?_getD, blit]
      by_cases c1 : i < dp
      · rw [List.append_assoc, List.getElem?_append_left (by simp; omega), if_neg (by omega)]; simp [List.getElem?_take, c1, hi]
      · by_cases c2 : i < dp + nn
        · rw [List.getElem?_append_left (by simp; omega), List.getElem?_append_right (by simp; omega), if_pos (by omega)]
          have z1 : min dp nb = dp := by omega
          have z2 : i - dp < nn := by omega
          have z3 : sp + (i - dp) < na := by omega
          simp [z1, z2, z3]
        · rw [List.getElem?_append_right (by simp; omega), if_neg (by omega)]
          have z1 : min dp nb = dp := by omega
          have z2 : dp + nn + (i - (dp + nn)) = i := by omega
          simp [z1, z2, hi]
    exact ⟨c, A, r2, hsm, fun i hi => by rw [H i (by rw [r2]; exact hi), key i hi], fun i hi => by have := G i (by rw [r2]; exact hi); rw [key i hi] at this; exact this⟩
  obtain ⟨s₂, v', L2, h1, h2⟩ := hr h' K' VV k1 k2 k3 k4 k5 k6 k7 k8 T' _ X' e' N'
  exact ⟨s₂, v', L2, k _ h1, h2⟩
theorem WP.initO {i : Nat} {a : Addr} {wd : Nat} (hd : decode code pc = .ok (.invokespecial i, 3)) (hp : pc + 3 = pc') (w1 : (Jvm.Cond.methodLink own i Lib.objectInit).before a0 Z = true) (w2 : (Jvm.Cond.instanceMethod Lib.objectInit).before a0 Z = true) (w3 : (Jvm.Cond.code Lib.objectInit ⟨#[0xb1]⟩ 1 none).before a0 Z = true) (hml : Ls.size = ml) (hf : 1 ≤ R.frames) (hw : (st.map fun v => v.category).sum ≤ wd) (hl : wd + 12 ≤ R.locals) (hr : WPG C Z code ml own rt nm R n0 G cl sl h pc' Ls st) : WPG C Z code ml own rt nm R n0 G cl sl h pc Ls (.ref a :: st) := by
  subst hp
  refine hr.step fun X hx hby hml' hown hZ hnm eT N => ?_
  obtain ⟨T', X', e', k⟩ := RoadKit.initO X hx hZ hown w1 w2 w3 eT (g := mkF _ pc Ls (.ref a :: st)) rfl (by rw [hml']; exact hml) rfl (hb hby hd) hf (W := wd) (by show 2 * 0 + _ ≤ _; omega) hl
  exact ⟨T', _, X', e', N, fun t q => k t q⟩
theorem WP.callS {i : Nat} {y : MethodName} {code' : ByteArray} {ml' wd cl' sl' : Nat} {rt' : Option FieldType} {R' : Room} {Q' : Option Value → Heap → Prop} {argsL rest : List Value} {ps : List FieldType} {rr : Option FieldType} (hd : decode code pc = .ok (.invokestatic i, 3)) (hp : pc + 3 = pc') (w1 : (Jvm.Cond.methodLink own i y).before a0 Z = true) (w2 : (Jvm.Cond.static y).before a0 Z = true) (w3 : (Jvm.Cond.initialized y.cls).before a0 Z = true) (w4 : (Jvm.Cond.code y code' ml' rt').before a0 Z = true) (hy : y.cls ≠ "java/lang/invoke/MethodHandle" ∧ y.cls ≠ "java/lang/invoke/VarHandle") (hM : ∀ l, Does l Z y code' ml' rt' R' n0 argsL.toArray h Q') (hpd : parseMethodDescriptor y.desc = some ⟨ps, rr⟩) (hlen : argsL.length = ps.length) (hst : st = argsL.reverse ++ rest) (hml : Ls.size = ml) (hw : (rest.map fun v => v.category).sum ≤ wd) (hrm : R'.frames + 1 ≤ R.frames) (hlo : wd + (ml' + 11) + R'.locals ≤ R.locals) (hc : cl + R'.cells = cl') (hs : sl + R'.slots = sl') (hc' : cl' ≤ R.cells) (hs' : sl' ≤ R.slots)
    (hr : ∀ v h', Q' v h' → WPG C Z code ml own rt nm R n0 G cl' sl' h' pc' Ls (v.toList ++ rest)) : WPG C Z code ml own rt nm R n0 G cl sl h pc Ls st := by
  subst hp hc hs
  intro k1 k2 k3 k4 k5 k6 k7 k8 T locs X e N
  obtain ⟨v, _, ⟨T', L', c', n'⟩, -, X', ⟨Lc, hQ, l1, y1, z1⟩, k⟩ := Jvm.LawKit.callS X k1 (y := y) k4 (mvT k5 w1) (mvT k5 w2) (mvT k5 w3) (mvT k5 w4) hy (backOf (W := wd) (Q := fun v h L => Q' v h ∧ Fr n0 L) (hM _ []) k5 w4 w3 hrm hlo) (g := mkF _ pc Ls st) rfl (by rw [k3]; exact hml) (argsL := argsL) (rest := rest) (lenOf hpd hlen) hst (by show 2 * 0 + _ ≤ _; omega) (hb k2 hd) (fun _ _ => ⟨rfl, e, hc', hs'⟩)
  dsimp only [Pt.U, Pt.locs, Pt.cells, Pt.slots] at X' l1 y1 z1 k hQ
  subst l1 y1 z1
  obtain ⟨s₂, v', L2, h1, h2⟩ := hr v _ hQ.1 k1 k2 k3 k4 k5 k6 k7 k8 T' _ X' rfl (Fr.app N hQ.2)
  exact ⟨s₂, v', L2, k _ h1, h2⟩
theorem WP.callI {a : Addr} {i : Nat} {y : MethodName} {code' : ByteArray} {ml' wd cl' sl' : Nat} {R' : Room} {Q' : Option Value → Heap → Prop} {argsL rest : List Value} {ps : List FieldType} {rr : Option FieldType} (hd : decode code pc = .ok (.invokespecial i, 3)) (hp : pc + 3 = pc') (hy1 : y.name = "<init>") (w1 : (Jvm.Cond.methodLink own i y).before a0 Z = true) (w2 : (Jvm.Cond.instanceMethod y).before a0 Z = true) (w3 : (Jvm.Cond.initialized y.cls).before a0 Z = true) (w4 : (Jvm.Cond.code y code' ml' none).before a0 Z = true) (hy : y.cls ≠ "java/lang/invoke/MethodHandle" ∧ y.cls ≠ "java/lang/invoke/VarHandle") (hM : ∀ l, Does l Z y code' ml' none R' n0 (.ref a :: argsL).toArray h Q') (hpd : parseMethodDescriptor y.desc = some ⟨ps, rr⟩) (hlen : argsL.length = ps.length) (hst : st = argsL.reverse ++ .ref a :: rest) (hml : Ls.size = ml) (hw : (rest.map fun v => v.category).sum ≤ wd) (hrm : R'.frames + 1 ≤ R.frames) (hlo : wd + (ml' + 11) + R'.locals ≤ R.locals) (hc : cl + R'.cells = cl') (hs : sl + R'.slots = sl') (hc' : cl' ≤ R.cells) (hs' : sl' ≤ R.slots)
    (hr : ∀ v h', Q' v h' → WPG C Z code ml own rt nm R n0 G cl' sl' h' pc' Ls (v.toList ++ rest)) : WPG C Z code ml own rt nm R n0 G cl sl h pc Ls st := by
  subst hp hc hs
  intro k1 k2 k3 k4 k5 k6 k7 k8 T locs X e N
  obtain ⟨v, _, ⟨T', L', c', n'⟩, -, X', ⟨Lc, hQ, l1, y1, z1⟩, k⟩ := X.specialBack k1 (y := y) hy1 k4 (mvT k5 w1) (mvT k5 w2) (mvT k5 w4) hy (backOf (W := wd) (Q := fun v h L => Q' v h ∧ Fr n0 L) (hM _ []) k5 w4 w3 hrm hlo) (g := mkF _ pc Ls st) rfl (by rw [k3]; exact hml) (Steps.refl _) (a := a) (argsL := argsL) (rest := rest) (lenOf hpd hlen) hst (by show 2 * 0 + _ ≤ _; omega) (hb k2 hd) (fun _ _ => ⟨rfl, e, hc', hs'⟩)
  dsimp only [Pt.U, Pt.locs, Pt.cells, Pt.slots] at X' l1 y1 z1 k hQ
  subst l1 y1 z1
  obtain ⟨s₂, v', L2, h1, h2⟩ := hr v _ hQ.1 k1 k2 k3 k4 k5 k6 k7 k8 T' _ X' rfl (Fr.app N hQ.2)
  exact ⟨s₂, v', L2, k.trans h1, h2⟩
theorem WP.callV {a : Addr} {z : MethodName} {K : String} {i : Nat} {y : MethodName} {code' : ByteArray} {ml' wd cl' sl' : Nat} {rt' : Option FieldType} {R' : Room} {Q' : Option Value → Heap → Prop} {argsL rest : List Value} {ps : List FieldType} {rr : Option FieldType} (hd : decode code pc = .ok (.invokevirtual i, 3)) (hp : pc + 3 = pc') (w1 : (Jvm.Cond.methodLink own i y).before a0 Z = true) (wd1 : (Jvm.Cond.declares y).before a0 Z = true) (hnf : ∀ s : State, Z.Warmed39 s.vm → NotFace s y) (ws : (Jvm.Cond.selects K y z).before a0 Z = true) (w2 : (Jvm.Cond.instanceMethod z).before a0 Z = true) (w3 : (Jvm.Cond.initialized z.cls).before a0 Z = true) (w4 : (Jvm.Cond.code z code' ml' rt').before a0 Z = true) (hy : y.cls ≠ "java/lang/invoke/MethodHandle" ∧ y.cls ≠ "java/lang/invoke/VarHandle") (E : Exa Z h a K) (hM : ∀ l, Does l Z z code' ml' rt' R' n0 (.ref a :: argsL).toArray h Q') (hpd : parseMethodDescriptor y.desc = some ⟨ps, rr⟩) (hlen : argsL.length = ps.length) (hst : st = argsL.reverse ++ .ref a :: rest) (hml : Ls.size = ml) (hw : (rest.map fun v => v.category).sum ≤ wd) (hrm : R'.frames + 1 ≤ R.frames) (hlo : wd + (ml' + 11) + R'.locals ≤ R.locals) (hc : cl + R'.cells = cl') (hs : sl + R'.slots = sl') (hc' : cl' ≤ R.cells) (hs' : sl' ≤ R.slots)
    (hr : ∀ v h', Q' v h' → WPG C Z code ml own rt nm R n0 G cl' sl' h' pc' Ls (v.toList ++ rest)) : WPG C Z code ml own rt nm R n0 G cl sl h pc Ls st := by
  subst hp hc hs
  intro k1 k2 k3 k4 k5 k6 k7 k8 T locs X e N
  obtain ⟨cq, kq, q1, q2, q3⟩ := isOf k5 e E
  obtain ⟨v, _, ⟨T', L', c', n'⟩, -, X', ⟨Lc, hQ, l1, y1, z1⟩, k⟩ := X.virtualBack k1 (y := y) (z := z) k4 (mvT k5 w1) (mvT k5 wd1) (hnf _ k5) (mvT k5 ws) (mvT k5 w2) hy (backOf (W := wd) (Q := fun v h L => Q' v h ∧ Fr n0 L) (hM _ []) k5 w4 w3 hrm hlo) q1 q3 (g := mkF _ pc Ls st) rfl (by rw [k3]; exact hml) (Steps.refl _) (argsL := argsL) (rest := rest) (lenOf hpd hlen) hst (by show 2 * 0 + _ ≤ _; omega) (hb k2 hd) (fun _ _ => ⟨rfl, e, hc', hs'⟩)
  dsimp only [Pt.U, Pt.locs, Pt.cells, Pt.slots] at X' l1 y1 z1 k hQ
  subst l1 y1 z1
  obtain ⟨s₂, v', L2, h1, h2⟩ := hr v _ hQ.1 k1 k2 k3 k4 k5 k6 k7 k8 T' _ X' rfl (Fr.app N hQ.2)
  exact ⟨s₂, v', L2, k.trans h1, h2⟩
theorem nfS {y z : MethodName} {K : String} (ws : (Jvm.Cond.selects K y z).before a0 Z = true) (e : y = z) : ∀ s : State, Z.Warmed39 s.vm → NotFace s y := by subst e; exact fun s k => notFace_of_selects (args := #[]) (mvT k ws)
theorem WP.callP {a : Addr} {K : String} {i : Nat} {y : MethodName} {code' : ByteArray} {ml' wd cl' sl' : Nat} {rt' : Option FieldType} {R' : Room} {Q' : Option Value → Heap → Prop} {argsL rest : List Value} {ps : List FieldType} {rr : Option FieldType} (hd : decode code pc = .ok (.invokevirtual i, 3)) (hp : pc + 3 = pc') (w1 : (Jvm.Cond.methodLink own i y).before a0 Z = true) (w2 : (Jvm.Cond.instanceMethod y).before a0 Z = true) (ws : (Jvm.Cond.selects y.cls y y).before a0 Z = true) (wp : (Jvm.Cond.privateMethod y).before a0 Z = true) (w3 : (Jvm.Cond.initialized y.cls).before a0 Z = true) (w4 : (Jvm.Cond.code y code' ml' rt').before a0 Z = true) (hy : y.cls ≠ "java/lang/invoke/MethodHandle" ∧ y.cls ≠ "java/lang/invoke/VarHandle") (E : Exa Z h a K) (hM : ∀ l, Does l Z y code' ml' rt' R' n0 (.ref a :: argsL).toArray h Q') (hpd : parseMethodDescriptor y.desc = some ⟨ps, rr⟩) (hlen : argsL.length = ps.length) (hst : st = argsL.reverse ++ .ref a :: rest) (hml : Ls.size = ml) (hw : (rest.map fun v => v.category).sum ≤ wd) (hrm : R'.frames + 1 ≤ R.frames) (hlo : wd + (ml' + 11) + R'.locals ≤ R.locals) (hc : cl + R'.cells = cl') (hs : sl + R'.slots = sl') (hc' : cl' ≤ R.cells) (hs' : sl' ≤ R.slots)
    (hr : ∀ v h', Q' v h' → WPG C Z code ml own rt nm R n0 G cl' sl' h' pc' Ls (v.toList ++ rest)) : WPG C Z code ml own rt nm R n0 G cl sl h pc Ls st := by
  subst hp hc hs
  intro k1 k2 k3 k4 k5 k6 k7 k8 T locs X e N
  obtain ⟨cq, q1, q2⟩ := E.cell
  obtain ⟨v, _, ⟨T', L', c', n'⟩, -, X', ⟨Lc, hQ, l1, y1, z1⟩, k⟩ := X.privateBack k1 (y := y) k4 (mvT k5 w1) (mvT k5 w2) (mvT k5 ws) (Cond.privateMethod_at (mvP k5 wp (args := #[]))) (mvT k5 w4) hy (backOf (W := wd) (Q := fun v h L => Q' v h ∧ Fr n0 L) (hM _ []) k5 w4 w3 hrm hlo) (g := mkF _ pc Ls st) rfl (by rw [k3]; exact hml) (Steps.refl _) (a := a) (by rw [e]; exact q1) q2 (argsL := argsL) (rest := rest) (lenOf hpd hlen) hst (by show 2 * 0 + _ ≤ _; omega) (hb k2 hd) (fun _ _ => ⟨rfl, e, hc', hs'⟩)
  dsimp only [Pt.U, Pt.locs, Pt.cells, Pt.slots] at X' l1 y1 z1 k hQ
  subst l1 y1 z1
  obtain ⟨s₂, v', L2, h1, h2⟩ := hr v _ hQ.1 k1 k2 k3 k4 k5 k6 k7 k8 T' _ X' rfl (Fr.app N hQ.2)
  exact ⟨s₂, v', L2, k.trans h1, h2⟩
theorem WP.iret {z : Int32} (hd : decode code pc = .ok (.ireturn, 1)) (hrt : rt = some .int) (hc : cl ≤ R.cells) (hs : sl ≤ R.slots) (hq : Q (some (.int z)) h) : WP C Z code ml own rt nm R n0 Q cl sl h pc Ls (.int z :: st) := by
  intro k1 k2 k3 k4 k5 k6 k7 k8 T locs X e N
  obtain ⟨fs, hr', hrun, hended, hW, hsame⟩ := X.leave (v := some (.int z)) (fun q => by rw [k6, hrt] at q; cases q) k7
  exact ⟨_, _, _, retOut X k1 (t := .int) (k6.trans hrt) rfl (Or.inl ⟨rfl, Or.inl rfl, _, rfl⟩) (hb k2 hd) hr', hrun, hended, by show Q _ T.heap; rw [e]; exact hq, N, ⟨_, rfl⟩, hW, hsame.mono hc hs⟩
theorem WP.lret {z : Int64} (hd : decode code pc = .ok (.lreturn, 1)) (hrt : rt = some .long) (hc : cl ≤ R.cells) (hs : sl ≤ R.slots) (hq : Q (some (.long z)) h) : WP C Z code ml own rt nm R n0 Q cl sl h pc Ls (.long z :: st) := by
  intro k1 k2 k3 k4 k5 k6 k7 k8 T locs X e N
  obtain ⟨fs, hr', hrun, hended, hW, hsame⟩ := X.leave (v := some (.long z)) (fun q => by rw [k6, hrt] at q; cases q) k7
  exact ⟨_, _, _, retOut X k1 (t := .long) (k6.trans hrt) rfl (Or.inr (Or.inl ⟨rfl, rfl, _, rfl⟩)) (hb k2 hd) hr', hrun, hended, by show Q _ T.heap; rw [e]; exact hq, N, ⟨_, rfl⟩, hW, hsame.mono hc hs⟩
theorem WP.dret {z : UInt64} (hd : decode code pc = .ok (.dreturn, 1)) (hrt : rt = some .double) (hc : cl ≤ R.cells) (hs : sl ≤ R.slots) (hq : Q (some (.double z)) h) : WP C Z code ml own rt nm R n0 Q cl sl h pc Ls (.double z :: st) := by
  intro k1 k2 k3 k4 k5 k6 k7 k8 T locs X e N
  obtain ⟨fs, hr', hrun, hended, hW, hsame⟩ := X.leave (v := some (.double z)) (fun q => by rw [k6, hrt] at q; cases q) k7
  exact ⟨_, _, _, retOut X k1 (t := .double) (k6.trans hrt) rfl (Or.inr (Or.inr (Or.inl ⟨rfl, rfl, _, rfl⟩))) (hb k2 hd) hr', hrun, hended, by show Q _ T.heap; rw [e]; exact hq, N, ⟨_, rfl⟩, hW, hsame.mono hc hs⟩
theorem WP.aret {z : Value} (hd : decode code pc = .ok (.areturn, 1)) {t : FieldType} (hrt : rt = some t) (ht : t.isReference = true) (hv : z.isRef = true) (hc : cl ≤ R.cells) (hs : sl ≤ R.slots) (hq : Q (some z) h) : WP C Z code ml own rt nm R n0 Q cl sl h pc Ls (z :: st) := by
  intro k1 k2 k3 k4 k5 k6 k7 k8 T locs X e N
  obtain ⟨fs, hr', hrun, hended, hW, hsame⟩ := X.leave (v := some z) (fun q => by rw [k6, hrt] at q; cases q) k7
  exact ⟨_, _, _, retOut X k1 (t := t) (k6.trans hrt) (by cases t <;> first | (cases ht; done) | rfl) (Or.inr (Or.inr (Or.inr (Or.inr ⟨rfl, ht, hv⟩)))) (hb k2 hd) hr', hrun, hended, by show Q _ T.heap; rw [e]; exact hq, N, ⟨_, rfl⟩, hW, hsame.mono hc hs⟩
theorem WP.nret {z : Int32} (hd : decode code pc = .ok (.ireturn, 1)) {t : FieldType} {z' : Int32} (hrt : rt = some t) (ht : t = .boolean ∨ t = .byte ∨ t = .char ∨ t = .short) (hz : nar t z = z') (hc : cl ≤ R.cells) (hs : sl ≤ R.slots) (hq : Q (some (.int z')) h) : WP C Z code ml own rt nm R n0 Q cl sl h pc Ls (.int z :: st) := by
  intro k1 k2 k3 k4 k5 k6 k7 k8 T locs X e N
  obtain ⟨fs, hr', hrun, hended, hW, hsame⟩ := X.leave (v := some (.int z')) (fun q => by rw [k6, hrt] at q; cases q) k7
  exact ⟨_, _, _, retN X k1 (t := t) (k6.trans hrt) ht (hb k2 hd) (by rw [hz]; exact hr'), hrun, hended, by show Q _ T.heap; rw [e]; exact hq, N, ⟨_, rfl⟩, hW, hsame.mono hc hs⟩
theorem WP.vret (hd : decode code pc = .ok (.return_, 1)) (hrt : rt = none) (hc : cl ≤ R.cells) (hs : sl ≤ R.slots) (hq : Q none h) : WP C Z code ml own rt nm R n0 Q cl sl h pc Ls [] := by
  intro k1 k2 k3 k4 k5 k6 k7 k8 T locs X e N
  obtain ⟨fs, hr', hrun, hended, hW, hsame⟩ := X.leave (v := none) (fun _ => rfl) k7
  exact ⟨_, _, _, X.returnOut k1 (k6.trans hrt) (hb k2 hd) hr', hrun, hended, by show Q _ T.heap; rw [e]; exact hq, N, ⟨_, rfl⟩, hW, hsame.mono hc hs⟩
end Rules
end Jvm.WK
namespace Jvm.WK
open Jvm Sem ClassFile Op Lib Jvm.Free Jvm.Stand Jvm.LawKit Jvm.RoadKit
def b2i (b : Bool) : Int32 := if b then 1 else 0
theorem selPriv {Z : State} {a0 : Array Value} {K : String} {y y' : MethodName} (w : (Jvm.Cond.selects K y' y').before a0 Z = true) (e : y'.cls = y.cls) (wp : (Jvm.Cond.privateMethod y).before a0 Z = true) (wi : (Jvm.Cond.instanceMethod y).before a0 Z = true) (hy : y.cls ≠ "java/lang/invoke/MethodHandle" ∧ y.cls ≠ "java/lang/invoke/VarHandle") : (Jvm.Cond.selects y.cls y y).before a0 Z = true := by
  obtain ⟨c2, r2, m2, -, -, q3, -, kP, hkP, hkPi⟩ := Cond.selects_spec w
  exact selects_self_of_private (by rw [← e]; exact findClass_of_methodNamed q3) hkP hkPi (Cond.privateMethod_at wp) wi hy
theorem b2i_t {P : Prop} [Decidable P] (h : P) : some (Value.int 1) = some (Value.int (b2i (decide P))) := by rw [decide_eq_true h]; rfl
theorem b2i_f {P : Prop} [Decidable P] (h : ¬ P) : some (Value.int 0) = some (Value.int (b2i (decide P))) := by rw [decide_eq_false h]; rfl
theorem b2i_congr {P P' : Prop} [Decidable P] [Decidable P'] (h : P ↔ P') : b2i (decide P) = b2i (decide P') := by rw [decide_eq_decide.mpr h]
theorem b2i_1 {b : Bool} : b2i b = 1 ↔ b = true := by cases b <;> simp [b2i]
theorem b2i_0 {b : Bool} : b2i b = 0 ↔ b = false := by cases b <;> simp [b2i]
theorem b2i_one (b : Bool) : b2i b &&& 1 = b2i b := by cases b <;> rfl
theorem eqInt_v {args : Array Value} {first s : State} {o : Option Outcome} {idx : List Nat} {t : Term} {k : Int32} (h : (Jvm.Cond.eq t (.int k)).value args first o s idx = some true) : t.eval args first o idx s = some (.int k) := by
  obtain ⟨x, y, e1, e2, k1, k2⟩ := cmp_v (Or.inl h)
  have e3 : y = .int k := by simpa [Term.eval] using e2.symm
  subst e3
  obtain ⟨z, rfl⟩ := k2
  simp [Cond.value, e1, Term.eval] at h
  rw [e1, h]
theorem Sta.of_exa {args : Array Value} {s : State} {C n d K : String} (h : (Jvm.Cond.exactly (.static C n d) K).value args s none s [] = some true) (hi : (Jvm.Cond.initializedFor C n d).before args s = true ∨ ((Jvm.Cond.initialized C).before args s = true ∧ (Jvm.Cond.laysStatic C n d).before args s = true)) :
    ∃ a, (Term.static C n d).eval args s none [] s = some (.ref a) ∧ Sta s s.heap C n d (.ref a) ∧ Exa s s.heap a K := by
  obtain ⟨a, e⟩ := exa_v h
  exact ⟨a, e, Sta.start e hi, Exa.start e h⟩
theorem Fld.of_eq {args : Array Value} {s : State} {t : Term} {a : Addr} {C n d : String} {k : Int32} (e : t.eval args s none [] s = some (.ref a)) (h : (Jvm.Cond.eq (.field t C n d) (.int k)).value args s none s [] = some true) : Fld s s.heap a C n d (.int k) := by
  have q := eqInt_v h
  rw [fld_at e] at q
  exact Fld.start q
theorem Ari.of_start {s : State} {a : Addr} {c : Cell} {ty : FieldType} (hf : Fit s) (A : Arr s s.heap a c ty) (ht : ty = .int ∨ ty = .boolean ∨ ty = .byte ∨ ty = .char ∨ ty = .short) (hsz : c.slots.size < 2147483648) :
    ∃ g : Nat → Int32, Ari s s.heap a ty c.slots.size g ∧ ∀ i x, c.slots[i]? = some (.int x) → g i = x := by
  have key : ∀ i, i < c.slots.size → ∃ x, c.slots[i]? = some (.int x) ∧ fits ty (.int x) = true := by
    intro i hi
    have e1 : i.toInt32.toInt = (i : Int) := len_toInt (show i < 2 ^ 31 by omega)
    have e : i.toInt32.toNatClampNeg = i := by simp only [Int32.toNatClampNeg, e1]; omega
    obtain ⟨v, h1, h2⟩ := elem_fit (j := i.toInt32) hf A (idx_in hi (show c.slots.size < 2 ^ 31 by omega))
    obtain ⟨x, rfl⟩ := fit_I h2 ht
    rw [e] at h1
    exact ⟨x, h1, h2⟩
  refine ⟨fun i => match c.slots[i]? with | some (.int x) => x | _ => 0, ⟨c, A, rfl, hsz, fun i hi => ?_, fun i hi => ?_⟩, fun i x h => by simp only [h]⟩
  · obtain ⟨x, h1, -⟩ := key i hi; simp only [h1]
  · obtain ⟨x, h1, h2⟩ := key i hi; simp only [h1]; exact h2
theorem len_small {args : Array Value} {first s : State} {o : Option Outcome} {idx : List Nat} {t : Term} {v : Value} {a : Addr} {c : Cell} (h : (Term.length t).eval args first o idx s = some v) (ht : t.eval args first o idx s = some (.ref a)) (ha : s.arrayAt? a = some c) : c.slots.size < 2 ^ 31 := by
  simp only [Term.eval, ht, ha, Option.bind_eq_bind, Option.bind_some] at h
  split at h
  · assumption
  · cases h
/-- an array that a static holds, pinned by a case's words -/
theorem Ari.of_static {s : State} {args : Array Value} {C n d : String} {ty : FieldType} {N : Int32} {k : Nat} (hf : Fit s) (hA : (Jvm.Cond.arrayOf (.static C n d) ty).value args s none s [] = some true) (hL : (Jvm.Cond.eq (.length (.static C n d)) (.int N)).value args s none s [] = some true)
    (ht : ty = .int ∨ ty = .boolean ∨ ty = .byte ∨ ty = .char ∨ ty = .short) (hi : (Jvm.Cond.initializedFor C n d).before args s = true ∨ ((Jvm.Cond.initialized C).before args s = true ∧ (Jvm.Cond.laysStatic C n d).before args s = true)) (hN : N.toInt = (k : Int)) :
    ∃ (a : Addr) (g : Nat → Int32), Sta s s.heap C n d (.ref a) ∧ Ari s s.heap a ty k g ∧
      (∀ (j x : Int32) (i : Nat), (Jvm.Cond.eq (.elem (.static C n d) (.int j)) (.int x)).value args s none s [] = some true → j.toInt = (i : Int) → g i = x) ∧
      (∀ c : Jvm.Cond, (Jvm.Cond.all (.static C n d) c).value args s none s [] = some true → ∀ i, i < k → c.value args s none s [i] = some true) ∧
      (∀ (i : Nat) (x : Int32), i < k → (Jvm.Cond.eq (.elem (.static C n d) (.index 0)) (.int x)).value args s none s [i] = some true → g i = x) := by
  obtain ⟨a, e⟩ := arr_v hA
  obtain ⟨c, A⟩ := Arr.start e hA
  have eL := eqInt_v hL
  have hat : s.arrayAt? a = some c := A.fin (Vm.Alike.refl _)
  have hsz : c.slots.size < 2 ^ 31 := len_small eL e hat
  obtain ⟨a', c', q1, q2, q3⟩ := Term.length_spec eL
  cases e.symm.trans q1
  cases hat.symm.trans q2
  have hk : c.slots.size = k := by
    have z := congrArg Int32.toInt (Value.int.inj q3)
    rw [len_toInt hsz] at z
    omega
  obtain ⟨g, G, hg⟩ := Ari.of_start hf A ht hsz
  rw [hk] at G
  refine ⟨a, g, Sta.start e hi, G, fun j x i h hj => ?_, fun c0 h i hi => Cond.all_elim e hat h i (by omega), fun i x hi h => ?_⟩
  · obtain ⟨h1, h2⟩ := elem_in (eqInt_v h) e (show (Term.int j).eval args s none [] s = some (.int j) from rfl) A.1
    have ej : j.toNatClampNeg = i := by simp only [Int32.toNatClampNeg, hj]; omega
    rw [ej] at h2
    exact hg i x h2
  · have e2 : (Term.static C n d).eval args s none [i] s = some (.ref a) := e
    obtain ⟨h1, h2⟩ := elem_in (eqInt_v h) e2 (show (Term.index 0).eval args s none [i] s = some (.int i.toInt32) from rfl) A.1
    have e1 : i.toInt32.toInt = (i : Int) := len_toInt (show i < 2 ^ 31 by omega)
    have ej : i.toInt32.toNatClampNeg = i := by simp only [Int32.toNatClampNeg, e1]; omega
    rw [ej] at h2
    exact hg i x h2
theorem Arf.of_static {s : State} {args : Array Value} {C n d K K' : String} {N : Int32} {k : Nat} {X : Jvm.Cond} (hA : (Jvm.Cond.arrayOf (.static C n d) (.object K)).value args s none s [] = some true) (hL : (Jvm.Cond.eq (.length (.static C n d)) (.int N)).value args s none s [] = some true)
    (hi : (Jvm.Cond.initializedFor C n d).before args s = true ∨ ((Jvm.Cond.initialized C).before args s = true ∧ (Jvm.Cond.laysStatic C n d).before args s = true)) (hN : N.toInt = (k : Int)) (hall : (Jvm.Cond.all (.static C n d) (.and (.exactly (.elem (.static C n d) (.index 0)) K') X)).value args s none s [] = some true) :
    ∃ (a : Addr) (f : Nat → Value), Sta s s.heap C n d (.ref a) ∧ Arf s s.heap a (.object K) k f ∧ ∀ i, i < k → ∃ y, f i = .ref y := by
  obtain ⟨a, e⟩ := arr_v hA
  obtain ⟨c, A⟩ := Arr.start e hA
  have eL := eqInt_v hL
  have hat : s.arrayAt? a = some c := A.fin (Vm.Alike.refl _)
  have hsz : c.slots.size < 2 ^ 31 := len_small eL e hat
  obtain ⟨a', c', q1, q2, q3⟩ := Term.length_spec eL
  cases e.symm.trans q1
  cases hat.symm.trans q2
  have hk : c.slots.size = k := by
    have z := congrArg Int32.toInt (Value.int.inj q3)
    rw [len_toInt hsz] at z
    omega
  have key : ∀ i, i < k → ∃ y, c.slots[i]? = some (.ref y) := fun i hi => by
    have h1 := (and_e (Cond.all_elim e hat hall i (by omega))).1
    obtain ⟨y, hy⟩ := exa_v h1
    have e2 : (Term.static C n d).eval args s none [i] s = some (.ref a) := e
    obtain ⟨-, h2⟩ := elem_in hy e2 (show (Term.index 0).eval args s none [i] s = some (.int i.toInt32) from rfl) A.1
    have e1 : i.toInt32.toInt = (i : Int) := len_toInt (show i < 2 ^ 31 by omega)
    have ej : i.toInt32.toNatClampNeg = i := by simp only [Int32.toNatClampNeg, e1]; omega
    rw [ej] at h2
    exact ⟨y, h2⟩
  refine ⟨a, fun i => (c.slots[i]?).getD .null, Sta.start e hi, ⟨c, A, hk, by omega, fun i hi => ?_, fun i hi => ?_⟩, fun i hi => ?_⟩
  · obtain ⟨y, hy⟩ := key i hi; simp [hy]
  · obtain ⟨y, hy⟩ := key i hi; simp [hy, fits]
  · obtain ⟨y, hy⟩ := key i hi; exact ⟨y, by simp [hy]⟩
theorem nar_char (x : Int32) : nar .char (nar .char x) = nar .char x := by
  have h1 := c_i2c x
  have h2 := c_i2c (nar .char x)
  apply Int32.toInt_inj.mp
  show (nar .char x).toUInt32.toUInt16.toUInt32.toInt32.toInt = x.toUInt32.toUInt16.toUInt32.toInt32.toInt
  have e : (nar .char x).toInt = x.toUInt32.toUInt16.toUInt32.toInt32.toInt := rfl
  omega
theorem idx_lt {args : Array Value} {s : State} {i : Nat} {lo : Int32} (hi : i < 2147483648) : (Jvm.Cond.lt (.index 0) (.int lo)).value args s none s [i] = some (decide ((i : Int) < lo.toInt)) := by
  have e1 : i.toInt32.toInt = (i : Int) := len_toInt (show i < 2 ^ 31 by omega)
  rw [Cond.lt_ints (x := i.toInt32) (y := lo) rfl rfl, Option.some.injEq, decide_eq_decide, Int32.lt_iff_toInt_lt, e1]
theorem idx_le {args : Array Value} {s : State} {i : Nat} {hi : Int32} (h : i < 2147483648) : (Jvm.Cond.le (.int hi) (.index 0)).value args s none s [i] = some (decide (hi.toInt ≤ (i : Int))) := by
  have e1 : i.toInt32.toInt = (i : Int) := len_toInt (show i < 2 ^ 31 by omega)
  rw [Cond.le_ints (x := hi) (y := i.toInt32) rfl rfl, Option.some.injEq, decide_eq_decide, Int32.le_iff_toInt_le, e1]
theorem or_v {args : Array Value} {first s : State} {o : Option Outcome} {idx : List Nat} {G X : Jvm.Cond} {P : Prop} [Decidable P] (h : (Jvm.Cond.or G X).value args first o s idx = some true) (h1 : G.value args first o s idx = some (decide P)) : P ∨ X.value args first o s idx = some true := by
  by_cases p : P
  · exact Or.inl p
  · rw [Cond.or_of_right (nay h1 p)] at h; exact Or.inr h
end Jvm.WK
namespace Jvm.WK
open Jvm Sem ClassFile Op Lib Jvm.Free Jvm.Stand Jvm.LawKit Jvm.RoadKit
/-- the surroundings, the first state's tables turned to vm0 -/
abbrev Cx.at (C : Cx) (vm0 : Vm) : Cx := (C.1, C.2.1, C.2.2.1, C.2.2.2.1.setVm vm0, C.2.2.2.2)
/-- the tables have come from the start to vm0, and every String constant of EL that is booked says its text -/
def Hd (C : Cx) (Z : State) (EL : List (String × Nat)) (vm0 : Vm) (h : Heap) : Prop := (∃ k0, C.2.2.2.1.Since vm0 k0 ∧ k0 ≤ h.size) ∧ CHr Z EL C.2.2.2.1.vm C.2.2.2.1.heap vm0 h ∧ Z.Warmed39 vm0
def Sn (C : Cx) (vm0 : Vm) (h : Heap) : Prop := ∃ k0, C.2.2.2.1.Since vm0 k0 ∧ k0 ≤ h.size
abbrev EndW (C : Cx) (R : Room) (n0 : Nat) (Q : Option Value → Heap → Prop) : State → Option Value → List Loc → Prop := fun s₂ v L => Q v s₂.heap ∧ Fr n0 L ∧ ReturnedEndW C.2.2.2.1 (.returned v) s₂ L R.cells R.slots
abbrev EndH (C : Cx) (Z : State) (EL : List (String × Nat)) (R : Room) (n0 : Nat) (Q : Option Value → Heap → Prop) : State → Option Value → List Loc → Prop := fun s₂ v L => EndW C R n0 Q s₂ v L ∧ CHr Z EL C.2.2.2.1.vm C.2.2.2.1.heap s₂.vm s₂.heap
section
variable {C : Cx} {Z : State} {EL : List (String × Nat)} {vm0 : Vm} {h h' : Heap}
theorem Hd.sn (H : Hd C Z EL vm0 h) : Sn C vm0 h := H.1
theorem Hd.size (H : Hd C Z EL vm0 h) : C.2.2.2.1.heap.size ≤ h.size := H.2.1.2.1
theorem Hd.ch (H : Hd C Z EL vm0 h) : CHv Z EL vm0 h := H.2.1.1
theorem Hd.warm (H : Hd C Z EL vm0 h) : Z.Warmed39 vm0 := H.2.2
theorem Hd.ext (H : Hd C Z EL vm0 h) (E : Ext h h') : Hd C Z EL vm0 h' := by
  obtain ⟨⟨k0, h1, h2⟩, h3, h4⟩ := H
  exact ⟨⟨k0, h1, Nat.le_trans h2 E.1⟩, h3.trans (CHr.ext E h3.1), h4⟩
theorem Hd.keep {ws : List Addr} (H : Hd C Z EL vm0 h) (K : Keep h h' ws) (hs : ∀ x ∈ ws, Safe Z EL vm0 h x) : Hd C Z EL vm0 h' := by
  obtain ⟨⟨k0, h1, h2⟩, h3, h4⟩ := H
  exact ⟨⟨k0, h1, Nat.le_trans h2 K.1⟩, h3.trans (CHr.keep K hs h3.1), h4⟩
theorem Wr.size {a : Addr} {sl : Nat} {v : Value} (W : Wr h h' a sl v) : h'.size = h.size := by obtain ⟨c0, -, -, -, rfl⟩ := W; simp
theorem Hd.wr {a : Addr} {sl : Nat} {v : Value} (H : Hd C Z EL vm0 h) (W : Wr h h' a sl v) (S : Safe Z EL vm0 h a) : Hd C Z EL vm0 h' := by
  obtain ⟨⟨k0, h1, h2⟩, h3, h4⟩ := H
  exact ⟨⟨k0, h1, by rw [Wr.size W]; exact h2⟩, h3.trans (CHr.wr W S h3.1), h4⟩
theorem Sn.grow (H : Sn C vm0 h) (e : h.size ≤ h'.size) : Sn C vm0 h' := by obtain ⟨k0, h1, h2⟩ := H; exact ⟨k0, h1, Nat.le_trans h2 e⟩
end
/-- WHAT A METHOD DOES THAT MAY INTERN -/
def DoesH (l : Launch) (Z : State) (EL : List (String × Nat)) (y : MethodName) (code : ByteArray) (ml : Nat) (rt : Option FieldType) (R : Room) (n0 : Nat) (as' : Array Value) (h0 : Heap) (Q : Option Value → Heap → Prop) : Prop :=
  ∀ ws : List Jvm.Cond, MetFree l y (head1 (Jvm.Cond.code y code ml rt :: ws) R) (fun a U => a = as' ∧ Z.Warmed39 U.vm ∧ U.heap = h0 ∧ CHv Z EL U.vm h0) (fun _ _ _ _ _ => True)
    (fun _ U o U' => ∃ v L, o = .returned v ∧ (Q v U'.heap ∧ Fr n0 L) ∧ CHr Z EL U.vm U.heap U'.vm U'.heap ∧ ReturnedEndW U o U' L R.cells R.slots)
theorem DoesH.of_wp {l : Launch} {Z : State} {EL : List (String × Nat)} {y : MethodName} {code : ByteArray} {ml : Nat} {rt : Option FieldType} {R : Room} {n0 : Nat} {as' : Array Value} {h0 : Heap} {Q : Option Value → Heap → Prop} (hpl : plainFor y = true) {Ls : Array Slot} (hef : ∀ m, entryFrame m as' ml = mkF m 0 Ls [])
    (hW : ∀ (C : Cx) (vm0 : Vm), Hd C Z EL vm0 h0 → WPG (C.at vm0) Z code ml y.cls rt y.name R n0 (EndH C Z EL R n0 Q) 0 0 h0 0 Ls []) : DoesH l Z EL y code ml rt R n0 as' h0 Q := by
  intro ws
  refine MetFree.of_bodySF hpl hisR ?_
  intro p e s m args below meth c s₁ Bd hml0 hP hK
  obtain ⟨rfl, hZ, hh, hC⟩ := hP
  have X0 : Stand p l e R s m args below meth c s₁ [] 0 0 := Stand.of_body Bd
  have e0 : s₁.heap = h0 := by rw [← hh, Bd.state]; rfl
  obtain ⟨s₂, v, L, h1, h2, h3, h4⟩ := hW (p, l, e, s, m, args, below, meth, c) s.vm ⟨⟨0, (State.WarmedH.refl s).since 0, Nat.zero_le _⟩, by show CHr Z EL s.vm s.heap s.vm h0; rw [hh]; exact CHr.refl hC, hZ⟩ Bd.exec Bd.bytes hml0 (findClass_of_methodNamed Bd.named) hZ Bd.returns Bd.notSynchronized (name_of_methodNamed Bd.named Bd.method).1 s₁ [] X0 e0 (Fr.nil n0)
  exact ⟨s₂, _, castTop (hef m) h1, h2, h3, v, L, rfl, ⟨h4.1.1, h4.1.2.1⟩, h4.2, h4.1.2.2⟩
/-- .. and keeps no more than its frame -/
def DoesW (l : Launch) (Z : State) (EL : List (String × Nat)) (y : MethodName) (code : ByteArray) (ml : Nat) (rt : Option FieldType) (R : Room) (n0 : Nat) (as' : Array Value) (h0 : Heap) (Q : Option Value → Heap → Prop) : Prop :=
  ∀ ws : List Jvm.Cond, MetFree l y (head1 (Jvm.Cond.code y code ml rt :: ws) R) (fun a U => a = as' ∧ Z.Warmed39 U.vm ∧ U.heap = h0 ∧ CHv Z EL U.vm h0) (fun _ _ _ _ _ => True)
    (fun _ U o U' => ∃ v L, o = .returned v ∧ (Q v U'.heap ∧ Fr n0 L) ∧ ReturnedEndW U o U' L R.cells R.slots)
theorem DoesW.of_wp {l : Launch} {Z : State} {EL : List (String × Nat)} {y : MethodName} {code : ByteArray} {ml : Nat} {rt : Option FieldType} {R : Room} {n0 : Nat} {as' : Array Value} {h0 : Heap} {Q : Option Value → Heap → Prop} (hpl : plainFor y = true) {Ls : Array Slot} (hef : ∀ m, entryFrame m as' ml = mkF m 0 Ls [])
    (hW : ∀ (C : Cx) (vm0 : Vm), Hd C Z EL vm0 h0 → WPG (C.at vm0) Z code ml y.cls rt y.name R n0 (EndW C R n0 Q) 0 0 h0 0 Ls []) : DoesW l Z EL y code ml rt R n0 as' h0 Q := by
  intro ws
  refine MetFree.of_bodySF hpl hisR ?_
  intro p e s m args below meth c s₁ Bd hml0 hP hK
  obtain ⟨rfl, hZ, hh, hC⟩ := hP
  have X0 : Stand p l e R s m args below meth c s₁ [] 0 0 := Stand.of_body Bd
  have e0 : s₁.heap = h0 := by rw [← hh, Bd.state]; rfl
  obtain ⟨s₂, v, L, h1, h2, h3, h4⟩ := hW (p, l, e, s, m, args, below, meth, c) s.vm ⟨⟨0, (State.WarmedH.refl s).since 0, Nat.zero_le _⟩, by show CHr Z EL s.vm s.heap s.vm h0; rw [hh]; exact CHr.refl hC, hZ⟩ Bd.exec Bd.bytes hml0 (findClass_of_methodNamed Bd.named) hZ Bd.returns Bd.notSynchronized (name_of_methodNamed Bd.named Bd.method).1 s₁ [] X0 e0 (Fr.nil n0)
  exact ⟨s₂, _, castTop (hef m) h1, h2, h3, v, L, rfl, ⟨h4.1, h4.2.1⟩, h4.2.2⟩
/-- a text's bytes -/
def litG (L : List Int32) : Nat → Int32 := fun i => L.getD i 0
theorem Ari.of_arv {Z : State} {h : Heap} {b : Addr} {k : ClassId} {z : Int32} {vs : List Value} {L : List Int32} (A : Arv Z h b k .byte z vs (.int 0)) (hL : vs = L.map Value.int) (hz : z.toNatClampNeg = L.length) (hl : L.length < 2147483648) : Ari Z h b .byte L.length (litG L) := by
  obtain ⟨c, A, -, r1, r2, r3, r4⟩ := A
  have e : ∀ i, vs.getD i (.int 0) = Value.int (litG L i) := fun i => by
    rw [hL]; unfold litG
    simp only [List.getD_eq_getElem?_getD, List.getElem?_map]
    cases L[i]? <;> rfl
  have n1 : c.slots.size = L.length := r1.trans hz
  exact ⟨c, A, n1, hl, fun i hi => by rw [r3 i (by omega), e], fun i hi => by have := r4 i (by omega); rw [e] at this; exact this⟩
/-- a String whose bytes are not set yet is no booked one -/
theorem Safe.ofNull {Z : State} {EL : List (String × Nat)} {vm : Vm} {h : Heap} {x : Addr} (hZ : Z.Warmed39 vm) (E : Exa Z h x "java/lang/String") (F : Fld Z h x "java/lang/String" "value" "[B" .null) : Safe Z EL vm h x := fun B => by
  have hal := hZ.alike
  obtain ⟨cell, k, e1, e2, e3, -, -⟩ := E
  obtain ⟨p, -, u, a, -, q, -, F', rfl | rfl⟩ := B
  · obtain ⟨c', cv', kv, iv, f, f1, f2, -, -, -, -, f7⟩ := F
    cases (show h[q.sa]? = some q.sC from F'.ha).symm.trans f1
    obtain ⟨cS, ⟨⟨-, -, -, ⟨c1, k1, i1, g1, -⟩, -, -, -, v1, -⟩, -⟩, -⟩ := F'
    obtain ⟨k3, e3, -⟩ := State.fieldFound?_setVm (s := ({ Z with heap := h } : State)) hal f2
    have e4 := (show (Wst Z vm h).fieldFound? _ _ _ = _ from e3).symm.trans g1
    simp only [Option.some.injEq, Prod.mk.injEq] at e4
    rw [← e4.2.2.2, f7] at v1
    cases v1
  · cases (show h[q.sd]? = some q.SA from F'.hd).symm.trans e1
    obtain ⟨cS, -, -, f, -⟩ := F'
    have f' : vm.findClass "[B" = some q.SA.cls := f
    rw [hal.findClass] at f'
    obtain ⟨k1, q1, q2⟩ := Vm.findClass_spec f'
    obtain ⟨k2, q3, q4⟩ := Vm.findClass_spec e2
    cases q1.symm.trans q3
    exact absurd (q2.symm.trans q4) (by decide)
theorem Ari.nil {Z : State} {h : Heap} {b : Addr} {ty : FieldType} {g g' : Nat → Int32} {n : Nat} (A : Ari Z h b ty 0 g) (e : n = 0) : Ari Z h b ty n g' := by subst e; exact A.congr fun j hj => absurd hj (Nat.not_lt_zero _)
section RulesH
variable {C : Cx} {Z : State} {EL : List (String × Nat)} {vm0 : Vm} {code : ByteArray} {ml : Nat} {own : String} {rt : Option FieldType} {nm : String} {R : Room} {n0 : Nat} {Q : Option Value → Heap → Prop} {G : State → Option Value → List Loc → Prop} {cl sl : Nat} {h : Heap} {pc pc' : Nat} {Ls Ls' : Array Slot} {st st' : List Value} {a0 : Array Value}
theorem retW {U : State} {v : Option Value} {locs : List Loc} (H : Sn C vm0 h) (e : U.heap = h) (hW : (C.2.2.2.1.setVm vm0).WarmedH U.vm) (hs : (C.2.2.2.1.setVm vm0).sameButNew ({ U with vm := vm0 } : State) locs cl sl) (hc : cl ≤ R.cells) (hs' : sl ≤ R.slots) : ReturnedEndW C.2.2.2.1 (.returned v) U locs R.cells R.slots := by
  obtain ⟨k0, h1, h2⟩ := H
  obtain ⟨q1, q2, q3⟩ := h1.ended hW (by rw [e]; exact h2) hs
  exact ⟨⟨_, rfl⟩, q1, q2, q3.mono hc hs'⟩
theorem Hd.at (hZ : Z.Warmed39 vm0) (w : EW Z a0 EL) (H : Hd C Z EL vm0 h) {vm1 : Vm} (hW : (C.2.2.2.1.setVm vm0).WarmedH vm1) : CHr Z EL C.2.2.2.1.vm C.2.2.2.1.heap vm1 h := by
  have q := CHv.later (h' := h) hZ (hW := (show (Wst Z vm0 h).Warmed39 vm1 from State.WarmedH.wide hW)) w ⟨Nat.le_refl _, fun _ _ q => q⟩ (Or.inl (State.WarmedH.interned_eq hW)) H.ch
  exact H.2.1.trans ⟨q.1, Nat.le_refl _, q.2⟩
theorem WP.iretW {z : Int32} (hd : decode code pc = .ok (.ireturn, 1)) (hrt : rt = some .int) (H : Sn C vm0 h) (hc : cl ≤ R.cells) (hs : sl ≤ R.slots) (hq : Q (some (.int z)) h) : WPG (C.at vm0) Z code ml own rt nm R n0 (EndW C R n0 Q) cl sl h pc Ls (.int z :: st) := by
  intro k1 k2 k3 k4 k5 k6 k7 k8 T locs X e N
  obtain ⟨fs, hr', hrun, hended, hW, hsame⟩ := X.leave (v := (some (.int z))) (fun q => by rw [k6, hrt] at q; cases q) k7
  exact ⟨_, _, _, retOut X k1 (t := .int) (k6.trans hrt) rfl (Or.inl ⟨rfl, Or.inl rfl, _, rfl⟩) (hb k2 hd) hr', hrun, hended, ⟨by show Q _ T.heap; rw [e]; exact hq, N, retW H e hW hsame hc hs⟩⟩
theorem WP.iretH {z : Int32} (hd : decode code pc = .ok (.ireturn, 1)) (hrt : rt = some .int) (hEL : EW Z a0 EL) (H : Hd C Z EL vm0 h) (hc : cl ≤ R.cells) (hs : sl ≤ R.slots) (hq : Q (some (.int z)) h) : WPG (C.at vm0) Z code ml own rt nm R n0 (EndH C Z EL R n0 Q) cl sl h pc Ls (.int z :: st) := by
  intro k1 k2 k3 k4 k5 k6 k7 k8 T locs X e N
  obtain ⟨fs, hr', hrun, hended, hW, hsame⟩ := X.leave (v := (some (.int z))) (fun q => by rw [k6, hrt] at q; cases q) k7
  exact ⟨_, _, _, retOut X k1 (t := .int) (k6.trans hrt) rfl (Or.inl ⟨rfl, Or.inl rfl, _, rfl⟩) (hb k2 hd) hr', hrun, hended, ⟨⟨by show Q _ T.heap; rw [e]; exact hq, N, retW H.sn e hW hsame hc hs⟩, by show CHr Z EL _ _ T.vm T.heap; rw [e]; exact H.at k5 hEL hW⟩⟩
theorem WP.aretW {z : Value} (hd : decode code pc = .ok (.areturn, 1)) {t : FieldType} (hrt : rt = some t) (ht : t.isReference = true) (hv : z.isRef = true) (H : Sn C vm0 h) (hc : cl ≤ R.cells) (hs : sl ≤ R.slots) (hq : Q (some z) h) : WPG (C.at vm0) Z code ml own rt nm R n0 (EndW C R n0 Q) cl sl h pc Ls (z :: st) := by
  intro k1 k2 k3 k4 k5 k6 k7 k8 T locs X e N
  obtain ⟨fs, hr', hrun, hended, hW, hsame⟩ := X.leave (v := (some z)) (fun q => by rw [k6, hrt] at q; cases q) k7
  exact ⟨_, _, _, retOut X k1 (t := t) (k6.trans hrt) (by cases t <;> first | (cases ht; done) | rfl) (Or.inr (Or.inr (Or.inr (Or.inr ⟨rfl, ht, hv⟩)))) (hb k2 hd) hr', hrun, hended, ⟨by show Q _ T.heap; rw [e]; exact hq, N, retW H e hW hsame hc hs⟩⟩
theorem WP.aretH {z : Value} (hd : decode code pc = .ok (.areturn, 1)) {t : FieldType} (hrt : rt = some t) (ht : t.isReference = true) (hv : z.isRef = true) (hEL : EW Z a0 EL) (H : Hd C Z EL vm0 h) (hc : cl ≤ R.cells) (hs : sl ≤ R.slots) (hq : Q (some z) h) : WPG (C.at vm0) Z code ml own rt nm R n0 (EndH C Z EL R n0 Q) cl sl h pc Ls (z :: st) := by
  intro k1 k2 k3 k4 k5 k6 k7 k8 T locs X e N
  obtain ⟨fs, hr', hrun, hended, hW, hsame⟩ := X.leave (v := (some z)) (fun q => by rw [k6, hrt] at q; cases q) k7
  exact ⟨_, _, _, retOut X k1 (t := t) (k6.trans hrt) (by cases t <;> first | (cases ht; done) | rfl) (Or.inr (Or.inr (Or.inr (Or.inr ⟨rfl, ht, hv⟩)))) (hb k2 hd) hr', hrun, hended, ⟨⟨by show Q _ T.heap; rw [e]; exact hq, N, retW H.sn e hW hsame hc hs⟩, by show CHr Z EL _ _ T.vm T.heap; rw [e]; exact H.at k5 hEL hW⟩⟩
theorem WP.nretW {z : Int32} (hd : decode code pc = .ok (.ireturn, 1)) {t : FieldType} {z' : Int32} (hrt : rt = some t) (ht : t = .boolean ∨ t = .byte ∨ t = .char ∨ t = .short) (hz : nar t z = z') (H : Sn C vm0 h) (hc : cl ≤ R.cells) (hs : sl ≤ R.slots) (hq : Q (some (.int z')) h) : WPG (C.at vm0) Z code ml own rt nm R n0 (EndW C R n0 Q) cl sl h pc Ls (.int z :: st) := by
  intro k1 k2 k3 k4 k5 k6 k7 k8 T locs X e N
  obtain ⟨fs, hr', hrun, hended, hW, hsame⟩ := X.leave (v := (some (.int z'))) (fun q => by rw [k6, hrt] at q; cases q) k7
  exact ⟨_, _, _, retN X k1 (t := t) (k6.trans hrt) ht (hb k2 hd) (by rw [hz]; exact hr'), hrun, hended, ⟨by show Q _ T.heap; rw [e]; exact hq, N, retW H e hW hsame hc hs⟩⟩
theorem WP.nretH {z : Int32} (hd : decode code pc = .ok (.ireturn, 1)) {t : FieldType} {z' : Int32} (hrt : rt = some t) (ht : t = .boolean ∨ t = .byte ∨ t = .char ∨ t = .short) (hz : nar t z = z') (hEL : EW Z a0 EL) (H : Hd C Z EL vm0 h) (hc : cl ≤ R.cells) (hs : sl ≤ R.slots) (hq : Q (some (.int z')) h) : WPG (C.at vm0) Z code ml own rt nm R n0 (EndH C Z EL R n0 Q) cl sl h pc Ls (.int z :: st) := by
  intro k1 k2 k3 k4 k5 k6 k7 k8 T locs X e N
  obtain ⟨fs, hr', hrun, hended, hW, hsame⟩ := X.leave (v := (some (.int z'))) (fun q => by rw [k6, hrt] at q; cases q) k7
  exact ⟨_, _, _, retN X k1 (t := t) (k6.trans hrt) ht (hb k2 hd) (by rw [hz]; exact hr'), hrun, hended, ⟨⟨by show Q _ T.heap; rw [e]; exact hq, N, retW H.sn e hW hsame hc hs⟩, by show CHr Z EL _ _ T.vm T.heap; rw [e]; exact H.at k5 hEL hW⟩⟩
theorem WP.vretW  (hd : decode code pc = .ok (.return_, 1)) (hrt : rt = none) (H : Sn C vm0 h) (hc : cl ≤ R.cells) (hs : sl ≤ R.slots) (hq : Q none h) : WPG (C.at vm0) Z code ml own rt nm R n0 (EndW C R n0 Q) cl sl h pc Ls [] := by
  intro k1 k2 k3 k4 k5 k6 k7 k8 T locs X e N
  obtain ⟨fs, hr', hrun, hended, hW, hsame⟩ := X.leave (v := none) (fun _ => rfl) k7
  exact ⟨_, _, _, X.returnOut k1 (k6.trans hrt) (hb k2 hd) hr', hrun, hended, ⟨by show Q _ T.heap; rw [e]; exact hq, N, retW H e hW hsame hc hs⟩⟩
theorem WP.vretH  (hd : decode code pc = .ok (.return_, 1)) (hrt : rt = none) (hEL : EW Z a0 EL) (H : Hd C Z EL vm0 h) (hc : cl ≤ R.cells) (hs : sl ≤ R.slots) (hq : Q none h) : WPG (C.at vm0) Z code ml own rt nm R n0 (EndH C Z EL R n0 Q) cl sl h pc Ls [] := by
  intro k1 k2 k3 k4 k5 k6 k7 k8 T locs X e N
  obtain ⟨fs, hr', hrun, hended, hW, hsame⟩ := X.leave (v := none) (fun _ => rfl) k7
  exact ⟨_, _, _, X.returnOut k1 (k6.trans hrt) (hb k2 hd) hr', hrun, hended, ⟨⟨by show Q _ T.heap; rw [e]; exact hq, N, retW H.sn e hW hsame hc hs⟩, by show CHr Z EL _ _ T.vm T.heap; rw [e]; exact H.at k5 hEL hW⟩⟩
theorem WP.ldcH {i n : Nat} {text : String} {vs : List Value} {z : Int32} {cl' sl' : Nat} (hd : decode code pc = .ok (.ldc i, 2)) (hp : pc + 2 = pc') (w : (Jvm.Cond.stringLink own i text).before a0 Z = true) (wS : ∀ a ∈ Bundle.stringAtoms, a.before a0 Z = true) (hEL : EW Z a0 EL) (hmem : (own, i) ∈ EL) (H : Hd C Z EL vm0 h)
    (ht : (∀ c ∈ text.toList, c.toNat < 256) ∧ text.toList.map (fun c => Value.int (Jvm.Lit.byteI c.toNat.toUInt16)) = vs) (hz : ¬ z < 0) (hl : z.toNatClampNeg = vs.length) (hn : 4 * text.toList.length ≤ n) (hbig : n ≤ 536870912) (hc : cl + 2 = cl') (hs : sl + (n + 4) = sl') (hc' : cl' ≤ R.cells) (hs' : sl' ≤ R.slots)
    (hr : ∀ vm1 h' a b k, Ext h h' → Exa Z h' a "java/lang/String" → Fld Z h' a "java/lang/String" "coder" "B" (.int 0) → Fld Z h' a "java/lang/String" "value" "[B" (.ref b) → Arv Z h' b k .byte z vs (.int 0) → Hd C Z EL vm1 h' → CHr Z EL vm0 h vm1 h' → (∀ x, Safe Z EL vm1 h' x → x ≠ a ∧ x ≠ b) → WPG (C.at vm1) Z code ml own rt nm R n0 G cl' sl' h' pc' Ls (.ref a :: st)) : WPG (C.at vm0) Z code ml own rt nm R n0 G cl sl h pc Ls st := by
  subst hp hc hs
  intro k1 k2 k3 k4 k5 k6 k7 k8 T locs X e N
  obtain ⟨⟨k0, q1, q2⟩, q3, -⟩ := H
  obtain ⟨a, T', h', k9, b, k, X', e', E', S', L', Z', f', A1, A2, A3, A4, -, -, R', -, ne, come⟩ := ldcCH X k1 k5 k4 w wS e q1 q2 hEL hmem q3.1 ht hz hl (g := mkF _ pc Ls st) rfl (hb k2 hd) hn hbig hc' hs'
  obtain ⟨s₂, v', L2, h1, h2⟩ := hr T'.vm h' a b k E' A1 A2 A3 A4 ⟨⟨k9, S', L'⟩, q3.trans R', Z'⟩ R' ne k1 k2 k3 f' Z' k6 k7 k8 T' _ X' e' N
  exact ⟨s₂, v', L2, come _ h1, h2⟩
theorem WP.callSH {i : Nat} {y : MethodName} {code' : ByteArray} {ml' wd cl' sl' : Nat} {rt' : Option FieldType} {R' : Room} {Q' : Option Value → Heap → Prop} {argsL rest : List Value} {ps : List FieldType} {rr : Option FieldType} (hd : decode code pc = .ok (.invokestatic i, 3)) (hp : pc + 3 = pc') (w1 : (Jvm.Cond.methodLink own i y).before a0 Z = true) (w2 : (Jvm.Cond.static y).before a0 Z = true) (w3 : (Jvm.Cond.initialized y.cls).before a0 Z = true) (w4 : (Jvm.Cond.code y code' ml' rt').before a0 Z = true) (hy : y.cls ≠ "java/lang/invoke/MethodHandle" ∧ y.cls ≠ "java/lang/invoke/VarHandle") (hEL : EW Z a0 EL) (H : Hd C Z EL vm0 h) (hM : ∀ l, DoesH l Z EL y code' ml' rt' R' n0 argsL.toArray h Q') (hpd : parseMethodDescriptor y.desc = some ⟨ps, rr⟩) (hlen : argsL.length = ps.length) (hst : st = argsL.reverse ++ rest) (hml : Ls.size = ml) (hw : (rest.map fun v => v.category).sum ≤ wd) (hrm : R'.frames + 1 ≤ R.frames) (hlo : wd + (ml' + 11) + R'.locals ≤ R.locals) (hc : cl + R'.cells = cl') (hs : sl + R'.slots = sl') (hc' : cl' ≤ R.cells) (hs' : sl' ≤ R.slots)
    (hr : ∀ v vm1 h', Q' v h' → Hd C Z EL vm1 h' → CHr Z EL vm0 h vm1 h' → WPG (C.at vm1) Z code ml own rt nm R n0 G cl' sl' h' pc' Ls (v.toList ++ rest)) : WPG (C.at vm0) Z code ml own rt nm R n0 G cl sl h pc Ls st := by
  subst hp hc hs
  intro k1 k2 k3 k4 k5 k6 k7 k8 T locs X e N
  obtain ⟨v, _, ⟨T', L', c', n'⟩, -, X', S', g', ⟨Lc, hQ, l1, y1, z1, r1⟩, k⟩ := callSS X k1 (y := y) k4 (mvT k5 w1) (mvT k5 w2) (mvT k5 w3) (mvT k5 w4) hy (backOfSH (s := C.2.2.2.1) (W := wd) (Q := fun v h L => Q' v h ∧ Fr n0 L) (hM _ []) k5 w4 w3 hrm hlo hEL H.ch) (g := mkF _ pc Ls st) rfl (by rw [k3]; exact hml) (argsL := argsL) (rest := rest) (lenOf hpd hlen) hst (by show 2 * 0 + _ ≤ _; omega) (hb k2 hd) (fun _ _ => ⟨rfl, e, hc', hs'⟩)
  dsimp only [Pt.U, Pt.locs, Pt.cells, Pt.slots] at X' l1 y1 z1 k hQ r1 S' g'
  subst l1 y1 z1
  obtain ⟨⟨k0, q1, q2⟩, q3, -⟩ := H
  rw [e] at g'
  obtain ⟨s₂, v', L2, h1, h2⟩ := hr v T'.vm _ hQ.1 ⟨⟨_, q1.trans S' (Nat.le_trans q2 g'), Nat.le_refl _⟩, q3.trans r1, State.Warmed39.trans (t := C.2.2.2.1.setVm vm0) k5 S'.1⟩ r1 k1 k2 k3 (by rw [show ((C.at T'.vm).2.2.2.1).vm = T'.vm from rfl, S'.1.alike.findClass]; exact k4) (State.Warmed39.trans (t := C.2.2.2.1.setVm vm0) k5 S'.1) k6 k7 k8 T' _ X' rfl (Fr.app N hQ.2)
  exact ⟨s₂, v', L2, k.trans h1, h2⟩
theorem WP.callIH {a : Addr} {i : Nat} {y : MethodName} {code' : ByteArray} {ml' wd cl' sl' : Nat} {R' : Room} {Q' : Option Value → Heap → Prop} {argsL rest : List Value} {ps : List FieldType} {rr : Option FieldType} (hd : decode code pc = .ok (.invokespecial i, 3)) (hp : pc + 3 = pc') (hy1 : y.name = "<init>") (w1 : (Jvm.Cond.methodLink own i y).before a0 Z = true) (w2 : (Jvm.Cond.instanceMethod y).before a0 Z = true) (w3 : (Jvm.Cond.initialized y.cls).before a0 Z = true) (w4 : (Jvm.Cond.code y code' ml' none).before a0 Z = true) (hy : y.cls ≠ "java/lang/invoke/MethodHandle" ∧ y.cls ≠ "java/lang/invoke/VarHandle") (hEL : EW Z a0 EL) (H : Hd C Z EL vm0 h) (hM : ∀ l, DoesH l Z EL y code' ml' none R' n0 (.ref a :: argsL).toArray h Q') (hpd : parseMethodDescriptor y.desc = some ⟨ps, rr⟩) (hlen : argsL.length = ps.length) (hst : st = argsL.reverse ++ .ref a :: rest) (hml : Ls.size = ml) (hw : (rest.map fun v => v.category).sum ≤ wd) (hrm : R'.frames + 1 ≤ R.frames) (hlo : wd + (ml' + 11) + R'.locals ≤ R.locals) (hc : cl + R'.cells = cl') (hs : sl + R'.slots = sl') (hc' : cl' ≤ R.cells) (hs' : sl' ≤ R.slots)
    (hr : ∀ v vm1 h', Q' v h' → Hd C Z EL vm1 h' → CHr Z EL vm0 h vm1 h' → WPG (C.at vm1) Z code ml own rt nm R n0 G cl' sl' h' pc' Ls (v.toList ++ rest)) : WPG (C.at vm0) Z code ml own rt nm R n0 G cl sl h pc Ls st := by
  subst hp hc hs
  intro k1 k2 k3 k4 k5 k6 k7 k8 T locs X e N
  obtain ⟨v, _, ⟨T', L', c', n'⟩, -, X', S', g', ⟨Lc, hQ, l1, y1, z1, r1⟩, k⟩ := X.specialBackS k1 (y := y) hy1 k4 (mvT k5 w1) (mvT k5 w2) (mvT k5 w4) hy (backOfSH (s := C.2.2.2.1) (W := wd) (Q := fun v h L => Q' v h ∧ Fr n0 L) (hM _ []) k5 w4 w3 hrm hlo hEL H.ch) (g := mkF _ pc Ls st) rfl (by rw [k3]; exact hml) (Steps.refl _) (a := a) (argsL := argsL) (rest := rest) (lenOf hpd hlen) hst (by show 2 * 0 + _ ≤ _; omega) (hb k2 hd) (fun _ _ => ⟨rfl, e, hc', hs'⟩)
  dsimp only [Pt.U, Pt.locs, Pt.cells, Pt.slots] at X' l1 y1 z1 k hQ r1 S' g'
  subst l1 y1 z1
  obtain ⟨⟨k0, q1, q2⟩, q3, -⟩ := H
  rw [e] at g'
  obtain ⟨s₂, v', L2, h1, h2⟩ := hr v T'.vm _ hQ.1 ⟨⟨_, q1.trans S' (Nat.le_trans q2 g'), Nat.le_refl _⟩, q3.trans r1, State.Warmed39.trans (t := C.2.2.2.1.setVm vm0) k5 S'.1⟩ r1 k1 k2 k3 (by rw [show ((C.at T'.vm).2.2.2.1).vm = T'.vm from rfl, S'.1.alike.findClass]; exact k4) (State.Warmed39.trans (t := C.2.2.2.1.setVm vm0) k5 S'.1) k6 k7 k8 T' _ X' rfl (Fr.app N hQ.2)
  exact ⟨s₂, v', L2, k.trans h1, h2⟩
end RulesH
end Jvm.WK
namespace Jvm.Pilot.@@N@@
open Jvm Jvm.ClassFile Sem Op Lib Jvm.Free Jvm.Stand Jvm.LawKit Jvm.RoadKit Bundle Jvm.WK Jvm.Pilot.@@N@@.Jvm.D
/-- a char as a byte -/
def cv (c : Int32) : Int32 := c.toInt8.toInt32
theorem cv_cv (c : Int32) : nar .byte (cv c) = cv c := by
  have h1 := c_i2b c
  have h2 := c_i2b (cv c)
  apply Int32.toInt_inj.mp
  show (cv c).toInt8.toInt32.toInt = (cv c).toInt
  have e : (cv c).toInt = c.toInt8.toInt32.toInt := rfl
  omega
theorem cv_inj {c d : Int32} (hc : 0 ≤ c.toInt ∧ c.toInt ≤ 255) (hd : 0 ≤ d.toInt ∧ d.toInt ≤ 255) (h : cv c = cv d) : c = d := by
  have h1 := c_i2b c
  have h2 := c_i2b d
  have h3 : c.toInt8.toInt32.toInt = d.toInt8.toInt32.toInt := congrArg Int32.toInt h
  apply Int32.toInt_inj.mp
  omega
theorem natI {n : Nat} (h : n < 100000) : (n : Nat).toInt32.toInt = (n : Int) := len_toInt (show n < 2 ^ 31 by omega)
theorem adds {a b : Int32} {m n : Nat} (ha : a.toInt = m) (hb : b.toInt = n) (h : m + n < 100000) : (a + b).toInt = ((m + n : Nat) : Int) := by
  have h1 := c_iadd a b
  have h2 := rng32 (a + b)
  omega
theorem subS (x : Int32) : x - x = 0 := by apply Int32.toBitVec_inj.mp; simp
def Lat (n : Nat) (g : Nat → Int32) : Prop := ∀ i, i < n → 0 ≤ (g i).toInt ∧ (g i).toInt ≤ 255
/-- the two arrays of bytes are alike -/
def Same (n m : Nat) (g g' : Nat → Int32) : Prop := n = m ∧ ∀ i, i < n → g i = g' i
theorem d_jdk_52_method_21_0 : decode jdk_52_method_21_code 0 = .ok (.iconst 0, 1) := by decide +kernel
theorem d_jdk_52_method_21_1 : decode jdk_52_method_21_code 1 = .ok (.istore 5, 2) := by decide +kernel
theorem d_jdk_52_method_21_3 : decode jdk_52_method_21_code 3 = .ok (.iload 5, 2) := by decide +kernel
theorem d_jdk_52_method_21_5 : decode jdk_52_method_21_code 5 = .ok (.iload 4, 2) := by decide +kernel
theorem d_jdk_52_method_21_7 : decode jdk_52_method_21_code 7 = .ok (.if_icmp .ge 37, 3) := by decide +kernel
theorem d_jdk_52_method_21_44 : decode jdk_52_method_21_code 44 = .ok (.iload 4, 2) := by decide +kernel
theorem d_jdk_52_method_21_46 : decode jdk_52_method_21_code 46 = .ok (.ireturn, 1) := by decide +kernel
theorem d_jdk_52_method_21_10 : decode jdk_52_method_21_code 10 = .ok (.aload_n 0, 1) := by decide +kernel
theorem d_jdk_52_method_21_11 : decode jdk_52_method_21_code 11 = .ok (.iload_n 1, 1) := by decide +kernel
theorem d_jdk_52_method_21_12 : decode jdk_52_method_21_code 12 = .ok (.caload, 1) := by decide +kernel
theorem d_jdk_52_method_21_13 : decode jdk_52_method_21_code 13 = .ok (.istore 6, 2) := by decide +kernel
theorem d_jdk_52_method_21_15 : decode jdk_52_method_21_code 15 = .ok (.iload 6, 2) := by decide +kernel
theorem d_jdk_52_method_21_17 : decode jdk_52_method_21_code 17 = .ok (.sipush 255, 3) := by decide +kernel
theorem d_jdk_52_method_21_20 : decode jdk_52_method_21_code 20 = .ok (.if_icmp .le 6, 3) := by decide +kernel
theorem d_jdk_52_method_21_26 : decode jdk_52_method_21_code 26 = .ok (.aload_n 2, 1) := by decide +kernel
theorem d_jdk_52_method_21_27 : decode jdk_52_method_21_code 27 = .ok (.iload_n 3, 1) := by decide +kernel
theorem d_jdk_52_method_21_28 : decode jdk_52_method_21_code 28 = .ok (.iload 6, 2) := by decide +kernel
theorem d_jdk_52_method_21_30 : decode jdk_52_method_21_code 30 = .ok (.i2b, 1) := by decide +kernel
theorem d_jdk_52_method_21_31 : decode jdk_52_method_21_code 31 = .ok (.bastore, 1) := by decide +kernel
theorem d_jdk_52_method_21_32 : decode jdk_52_method_21_code 32 = .ok (.iinc 1 1, 3) := by decide +kernel
theorem d_jdk_52_method_21_35 : decode jdk_52_method_21_code 35 = .ok (.iinc 3 1, 3) := by decide +kernel
theorem d_jdk_52_method_21_38 : decode jdk_52_method_21_code 38 = .ok (.iinc 5 1, 3) := by decide +kernel
theorem d_jdk_52_method_21_41 : decode jdk_52_method_21_code 41 = .ok (.goto (-38), 3) := by decide +kernel
theorem pn_0 : plainName "java/lang/StringUTF16" = true := by first | (simp [plainName, overriddenIn]; done) | decide +kernel
set_option maxRecDepth 65536 in
set_option maxHeartbeats 40000000 in
theorem s_c1 {Z : State} {a0 : Array Value} (hw : ∀ d ∈ tables_1, d.before a0 Z = true) (a : Addr) (b : Addr) (p : Int32) (h0 : Heap) (n0 : Nat) (n : Nat) (gc gb : Nat → Int32) (A0 : Ari Z h0 a .char n gc) (B0 : Ari Z h0 b .byte n gb) (hp : p.toInt = (n : Int)) (hn : n ≤ 10000) (hlat : Lat n gc) (hab : a ≠ b) (g_b : n0 ≤ b) : ∀ l, Does l Z (⟨"java/lang/StringUTF16", "compress", "([CI[BII)I"⟩ : MethodName) jdk_52_method_21_code 7 (some .int) ({ frames := 0, cells := 0, slots := 0, locals := 0 } : Room) n0 #[(.ref a), (.int (0 : Int32)), (.ref b), (.int (0 : Int32)), (.int p)] h0 (fun v h => v = some (.int p) ∧ Keep h0 h [b] ∧ Ari Z h b .byte n (fun i => cv (gc i))) := by
  intro l
  refine Does.of_wp (plainFor_of_name pn_0) (Ls := #[.val (.ref a), .val (.int (0 : Int32)), .val (.ref b), .val (.int (0 : Int32)), .val (.int p), .unset, .unset]) (fun m => by first | (simp [entryFrame, mkF, argsToLocals, Value.category]; done) | rfl | (rcases ref_cases hfv with rfl | ⟨_, rfl⟩ <;> rfl)) ?_
  intro C
  refine WP.iconst (pc' := 1) d_jdk_52_method_21_0 rfl (z := 0) rfl ?_
  refine WP.istore (pc' := 3) d_jdk_52_method_21_1 rfl (Ls' := #[.val (.ref a), .val (.int (0 : Int32)), .val (.ref b), .val (.int (0 : Int32)), .val (.int p), .val (.int (0 : Int32)), .unset]) rfl ?_
  have loop : ∀ (k I : Nat) (o d i : Int32) (s6 : Slot) (hh : Heap) (g : Nat → Int32), (s6 = .unset ∨ ∃ u, s6 = .val u ∧ u.category = 1) → o.toInt = (I : Int) → d.toInt = (I : Int) → i.toInt = (I : Int) → I ≤ n → n - I < k → Keep h0 hh [b] → Ari Z hh b .byte n g → (∀ j, j < I → g j = cv (gc j)) → WP C Z jdk_52_method_21_code 7 "java/lang/StringUTF16" (some .int) "compress" ({ frames := 0, cells := 0, slots := 0, locals := 0 } : Room) n0 (fun v h => v = some (.int p) ∧ Keep h0 h [b] ∧ Ari Z h b .byte n (fun i => cv (gc i))) 0 0 hh 3 #[.val (.ref a), .val (.int o), .val (.ref b), .val (.int d), .val (.int p), .val (.int i), s6] [] := by
    intro k
    induction k with
    | zero => intro I o d i s6 hh g h1 h2 h3 h4 h5 h6; omega
    | succ k IH =>
      intro I o d i s6 hh g hs6 ho hd hi hI hk K1 B1 hg
      have A1 := A0.keep K1 (ninS hab nin0)
      refine WP.iload (pc' := 5) d_jdk_52_method_21_3 rfl rfl ?_
      refine WP.iload (pc' := 7) d_jdk_52_method_21_5 rfl rfl ?_
      refine WP.icmp_ge (pc1 := 44) (pc2 := 10) d_jdk_52_method_21_7 (by decide) (by decide) rfl ?_ ?_
      · intro hc7
        refine WP.iload (pc' := 46) d_jdk_52_method_21_44 rfl rfl ?_
        refine WP.iret d_jdk_52_method_21_46 rfl (by decide) (by decide) ⟨rfl, K1, B1.congr fun j hj => hg j (by rw [Int32.lt_iff_toInt_lt] at hc7; omega)⟩
      · intro hc7
        have lt1 : I < n := by rw [Int32.lt_iff_toInt_lt] at hc7; omega
        refine WP.aloadN (pc' := 11) d_jdk_52_method_21_10 rfl rfl rfl ?_
        refine WP.iloadN (pc' := 12) d_jdk_52_method_21_11 rfl rfl ?_
        refine WP.caloadI (I) (pc' := 13) d_jdk_52_method_21_12 rfl A1 ho lt1 rfl ?_
        refine WP.istore (pc' := 15) d_jdk_52_method_21_13 rfl (Ls' := #[.val (.ref a), .val (.int o), .val (.ref b), .val (.int d), .val (.int p), .val (.int i), .val (.int (gc I))]) (XS.store1 rfl hs6 rfl) ?_
        refine WP.iload (pc' := 17) d_jdk_52_method_21_15 rfl rfl ?_
        refine WP.sipush (pc' := 20) d_jdk_52_method_21_17 rfl (z := 255) rfl ?_
        have hc20 : ¬ (255 : Int32) < (gc I) := by rw [Int32.lt_iff_toInt_lt]; have := (hlat I lt1).2; have e : (255 : Int32).toInt = 255 := rfl; omega
        refine WP.icmp_le (pc1 := 26) (pc2 := 23) d_jdk_52_method_21_20 (by decide) (by decide) rfl (fun _ => ?_) (fun k => absurd k hc20)
        refine WP.aloadN (pc' := 27) d_jdk_52_method_21_26 rfl rfl rfl ?_
        refine WP.iloadN (pc' := 28) d_jdk_52_method_21_27 rfl rfl ?_
        refine WP.iload (pc' := 30) d_jdk_52_method_21_28 rfl rfl ?_
        refine WP.i2b (pc' := 31) d_jdk_52_method_21_30 rfl ?_
        refine WP.bastoreI (x' := (nar .byte ((gc I).toInt8.toInt32))) (I) (pc' := 32) d_jdk_52_method_21_31 rfl B1 hd lt1 g_b rfl ?_
        intro h1 K2 A3
        have V4 := A1.keep K2 (ninS hab nin0)
        have K5 := K1.trans K2 (allS (Or.inl (by simp)) all0)
        refine WP.iinc (pc' := 35) d_jdk_52_method_21_32 rfl rfl (z := (o + (1 : Int32))) rfl (Ls' := #[.val (.ref a), .val (.int (o + (1 : Int32))), .val (.ref b), .val (.int d), .val (.int p), .val (.int i), .val (.int (gc I))]) rfl ?_
        refine WP.iinc (pc' := 38) d_jdk_52_method_21_35 rfl rfl (z := (d + (1 : Int32))) rfl (Ls' := #[.val (.ref a), .val (.int (o + (1 : Int32))), .val (.ref b), .val (.int (d + (1 : Int32))), .val (.int p), .val (.int i), .val (.int (gc I))]) rfl ?_
        refine WP.iinc (pc' := 41) d_jdk_52_method_21_38 rfl rfl (z := (i + (1 : Int32))) rfl (Ls' := #[.val (.ref a), .val (.int (o + (1 : Int32))), .val (.ref b), .val (.int (d + (1 : Int32))), .val (.int p), .val (.int (i + (1 : Int32))), .val (.int (gc I))]) rfl ?_
        refine WP.goto (pc' := 3) d_jdk_52_method_21_41 (by decide) (by decide) ?_
        refine IH (I + 1) _ _ _ _ _ _ (Or.inr ⟨_, rfl, rfl⟩) (adds ho rfl (by omega)) (adds hd rfl (by omega)) (adds hi rfl (by omega)) (by omega) (by omega) K5 A3 fun j hj => ?_
        by_cases q : j = I
        · rw [q, upd_at]; exact cv_cv _
        · rw [upd_ne q]; exact hg j (by omega)
  exact loop (n + 1) 0 0 0 0 _ h0 gb (Or.inl rfl) rfl rfl rfl (by omega) (by omega) (Keep.refl _ _) B0 fun j hj => absurd hj (by omega)
theorem d_jdk_52_method_16_0 : decode jdk_52_method_16_code 0 = .ok (.iload_n 2, 1) := by decide +kernel
theorem d_jdk_52_method_16_1 : decode jdk_52_method_16_code 1 = .ok (.newarray .byte, 2) := by decide +kernel
theorem wd25 {Z : State} {a0 : Array Value} (hw : ∀ d ∈ tables_1, d.before a0 Z = true) : (Jvm.Cond.arrayClass Jvm.ClassFile.FieldType.byte).before a0 Z = true := hw _ (List.mem_of_getElem? (i := 25) rfl)
theorem d_jdk_52_method_16_3 : decode jdk_52_method_16_code 3 = .ok (.astore_n 3, 1) := by decide +kernel
theorem d_jdk_52_method_16_4 : decode jdk_52_method_16_code 4 = .ok (.aload_n 0, 1) := by decide +kernel
theorem d_jdk_52_method_16_5 : decode jdk_52_method_16_code 5 = .ok (.iload_n 1, 1) := by decide +kernel
theorem d_jdk_52_method_16_6 : decode jdk_52_method_16_code 6 = .ok (.aload_n 3, 1) := by decide +kernel
theorem d_jdk_52_method_16_7 : decode jdk_52_method_16_code 7 = .ok (.iconst 0, 1) := by decide +kernel
theorem d_jdk_52_method_16_8 : decode jdk_52_method_16_code 8 = .ok (.iload_n 2, 1) := by decide +kernel
theorem d_jdk_52_method_16_9 : decode jdk_52_method_16_code 9 = .ok (.invokestatic 115, 3) := by decide +kernel
theorem wd40 {Z : State} {a0 : Array Value} (hw : ∀ d ∈ tables_1, d.before a0 Z = true) : (Jvm.Cond.methodLink "java/lang/StringUTF16" (115 : Nat) ({ cls := "java/lang/StringUTF16", name := "compress", desc := "([CI[BII)I" } : Jvm.MethodName)).before a0 Z = true := hw _ (List.mem_of_getElem? (i := 40) rfl)
theorem wd42 {Z : State} {a0 : Array Value} (hw : ∀ d ∈ tables_1, d.before a0 Z = true) : (Jvm.Cond.code ({ cls := "java/lang/StringUTF16", name := "compress", desc := "([CI[BII)I" } : Jvm.MethodName) jdk_52_method_21_code (7 : Nat) (Option.some Jvm.ClassFile.FieldType.int)).before a0 Z = true := hw _ (List.mem_of_getElem? (i := 42) rfl)
theorem wd38 {Z : State} {a0 : Array Value} (hw : ∀ d ∈ tables_1, d.before a0 Z = true) : (Jvm.Cond.initialized "java/lang/StringUTF16").before a0 Z = true := hw _ (List.mem_of_getElem? (i := 38) rfl)
theorem pd_0 : parseMethodDescriptor "([CI[BII)I" = some ⟨[(.array .char), .int, (.array .byte), .int, .int], some .int⟩ := by decide +kernel
theorem wd41 {Z : State} {a0 : Array Value} (hw : ∀ d ∈ tables_1, d.before a0 Z = true) : (Jvm.Cond.static ({ cls := "java/lang/StringUTF16", name := "compress", desc := "([CI[BII)I" } : Jvm.MethodName)).before a0 Z = true := hw _ (List.mem_of_getElem? (i := 41) rfl)
theorem d_jdk_52_method_16_12 : decode jdk_52_method_16_code 12 = .ok (.istore 4, 2) := by decide +kernel
theorem d_jdk_52_method_16_14 : decode jdk_52_method_16_code 14 = .ok (.iload 4, 2) := by decide +kernel
theorem d_jdk_52_method_16_16 : decode jdk_52_method_16_code 16 = .ok (.iload_n 2, 1) := by decide +kernel
theorem d_jdk_52_method_16_17 : decode jdk_52_method_16_code 17 = .ok (.if_icmp .eq 40, 3) := by decide +kernel
theorem d_jdk_52_method_16_57 : decode jdk_52_method_16_code 57 = .ok (.aload_n 3, 1) := by decide +kernel
theorem d_jdk_52_method_16_58 : decode jdk_52_method_16_code 58 = .ok (.areturn, 1) := by decide +kernel
set_option maxRecDepth 65536 in
set_option maxHeartbeats 40000000 in
theorem s_c2 {Z : State} {a0 : Array Value} (hw : ∀ d ∈ tables_1, d.before a0 Z = true) (a : Addr) (p : Int32) (h0 : Heap) (n0 : Nat) (Z0 : n0 ≤ h0.size) (n : Nat) (gc : Nat → Int32) (A0 : Ari Z h0 a .char n gc) (hp : p.toInt = (n : Int)) (hn : n ≤ 10000) (hcap : n ≤ 3) (hlat : Lat n gc) : ∀ l, Does l Z (⟨"java/lang/StringUTF16", "compress", "([CII)[B"⟩ : MethodName) jdk_52_method_16_code 6 (some (.array .byte)) ({ frames := 1, cells := 1, slots := 3, locals := 18 } : Room) n0 #[(.ref a), (.int (0 : Int32)), (.int p)] h0 (fun v h => ∃ b : Addr, v = some (.ref b) ∧ Keep h0 h [] ∧ n0 ≤ b ∧ h0.size ≤ b ∧ Ari Z h b .byte n (fun i => cv (gc i))) := by
  intro l
  refine Does.of_wp (plainFor_of_name pn_0) (Ls := #[.val (.ref a), .val (.int (0 : Int32)), .val (.int p), .unset, .unset, .unset]) (fun m => by first | (simp [entryFrame, mkF, argsToLocals, Value.category]; done) | rfl | (rcases ref_cases hfv with rfl | ⟨_, rfl⟩ <;> rfl)) ?_
  intro C
  have K0 := Keep.refl h0 []
  refine WP.iloadN (pc' := 1) d_jdk_52_method_16_0 rfl rfl ?_
  refine WP.newPI (ty := .byte) (n := n) (cap := 3) (cl' := 1) (sl' := 3) (pc' := 3) d_jdk_52_method_16_1 rfl rfl rfl (wd25 hw) hp hcap (by decide) rfl rfl (by decide) (by decide) ?_
  intro h1 b1 g1 E1 A1
  have ge2 : n0 ≤ b1 := by rw [g1]; exact Z0
  have sz3 : h0.size ≤ b1 := by rw [g1]; exact K0.1
  have ne4 : a ≠ b1 := by rw [g1]; exact Nat.ne_of_lt A0.lt
  have V5 := A0.ext E1
  have K6 := K0.ext E1
  have Z7 : n0 ≤ h1.size := Nat.le_trans Z0 E1.1
  refine WP.astoreN (pc' := 4) d_jdk_52_method_16_3 rfl rfl (Ls' := #[.val (.ref a), .val (.int (0 : Int32)), .val (.int p), .val (.ref b1), .unset, .unset]) rfl ?_
  refine WP.aloadN (pc' := 5) d_jdk_52_method_16_4 rfl rfl rfl ?_
  refine WP.iloadN (pc' := 6) d_jdk_52_method_16_5 rfl rfl ?_
  refine WP.aloadN (pc' := 7) d_jdk_52_method_16_6 rfl rfl rfl ?_
  refine WP.iconst (pc' := 8) d_jdk_52_method_16_7 rfl (z := 0) rfl ?_
  refine WP.iloadN (pc' := 9) d_jdk_52_method_16_8 rfl rfl ?_
  refine WP.callS (argsL := [(.ref a), (.int (0 : Int32)), (.ref b1), (.int (0 : Int32)), (.int p)]) (rest := []) (wd := 0) (cl' := 1) (sl' := 3) (pc' := 12) d_jdk_52_method_16_9 rfl (wd40 hw) (wd41 hw) (wd38 hw) (wd42 hw) (by decide) (s_c1 hw a b1 p h1 n0 n gc (fun _ => 0) V5 A1 hp hn hlat ne4 ge2) pd_0 rfl rfl rfl (Nat.le_of_eq rfl) (by decide) (by decide) rfl rfl (by decide) (by decide) ?_
  rintro v h8 ⟨rfl, K8, B8⟩
  have V9 := V5.keep K8 (ninS ne4 nin0)
  have K10 := K6.trans K8 (allS (Or.inr sz3) all0)
  have Z11 : n0 ≤ h8.size := Nat.le_trans Z7 K8.1
  refine WP.castS (st' := [(.int p)]) rfl ?_
  refine WP.istore (pc' := 14) d_jdk_52_method_16_12 rfl (Ls' := #[.val (.ref a), .val (.int (0 : Int32)), .val (.int p), .val (.ref b1), .val (.int p), .unset]) rfl ?_
  refine WP.iload (pc' := 16) d_jdk_52_method_16_14 rfl rfl ?_
  refine WP.iloadN (pc' := 17) d_jdk_52_method_16_16 rfl rfl ?_
  have hc17 : p = p := rfl
  refine WP.icmp_eq (pc1 := 57) (pc2 := 20) d_jdk_52_method_16_17 (by decide) (by decide) rfl (fun _ => ?_) (fun k => absurd hc17 k)
  refine WP.aloadN (pc' := 58) d_jdk_52_method_16_57 rfl rfl rfl ?_
  refine WP.aret d_jdk_52_method_16_58 rfl rfl rfl (by decide) (by decide) ⟨_, rfl, K10, ge2, sz3, B8⟩
theorem d_jdk_52_method_15_0 : decode jdk_52_method_15_code 0 = .ok (.iload_n 1, 1) := by decide +kernel
theorem d_jdk_52_method_15_1 : decode jdk_52_method_15_code 1 = .ok (.aload_n 0, 1) := by decide +kernel
theorem d_jdk_52_method_15_2 : decode jdk_52_method_15_code 2 = .ok (.arraylength, 1) := by decide +kernel
theorem d_jdk_52_method_15_3 : decode jdk_52_method_15_code 3 = .ok (.isub, 1) := by decide +kernel
theorem d_jdk_52_method_15_4 : decode jdk_52_method_15_code 4 = .ok (.bipush 31, 2) := by decide +kernel
theorem d_jdk_52_method_15_6 : decode jdk_52_method_15_code 6 = .ok (.iushr, 1) := by decide +kernel
theorem d_jdk_52_method_15_7 : decode jdk_52_method_15_code 7 = .ok (.i2b, 1) := by decide +kernel
theorem d_jdk_52_method_15_8 : decode jdk_52_method_15_code 8 = .ok (.ireturn, 1) := by decide +kernel
set_option maxRecDepth 65536 in
set_option maxHeartbeats 40000000 in
theorem s_cfl {Z : State} {a0 : Array Value} (hw : ∀ d ∈ tables_1, d.before a0 Z = true) (a : Addr) (p : Int32) (h0 : Heap) (n0 : Nat) (n : Nat) (g : Nat → Int32) (A0 : Ari Z h0 a .byte n g) (hp : p.toInt = (n : Int)) (hn : n ≤ 10000) : ∀ l, Does l Z (⟨"java/lang/StringUTF16", "coderFromArrayLen", "([BI)B"⟩ : MethodName) jdk_52_method_15_code 2 (some .byte) ({ frames := 0, cells := 0, slots := 0, locals := 0 } : Room) n0 #[(.ref a), (.int p)] h0 (fun v h => v = some (.int 0) ∧ h = h0) := by
  intro l
  refine Does.of_wp (plainFor_of_name pn_0) (Ls := #[.val (.ref a), .val (.int p)]) (fun m => by first | (simp [entryFrame, mkF, argsToLocals, Value.category]; done) | rfl | (rcases ref_cases hfv with rfl | ⟨_, rfl⟩ <;> rfl)) ?_
  intro C
  refine WP.iloadN (pc' := 1) d_jdk_52_method_15_0 rfl rfl ?_
  refine WP.aloadN (pc' := 2) d_jdk_52_method_15_1 rfl rfl rfl ?_
  refine WP.arraylengthI (z := (n : Nat).toInt32) (pc' := 3) d_jdk_52_method_15_2 rfl A0 rfl ?_
  refine WP.isub (pc' := 4) d_jdk_52_method_15_3 rfl ?_
  rw [show p - (n : Nat).toInt32 = 0 from by rw [show p = (n : Nat).toInt32 from Int32.toInt_inj.mp (by rw [hp, natI (by omega)])]; exact subS _]
  refine WP.bipush (pc' := 6) d_jdk_52_method_15_4 rfl (z := 31) rfl ?_
  refine WP.iushr (pc' := 7) d_jdk_52_method_15_6 rfl ?_
  refine WP.i2b (pc' := 8) d_jdk_52_method_15_7 rfl ?_
  refine WP.nret (t := .byte) d_jdk_52_method_15_8 rfl (by simp) rfl (by decide) (by decide) ⟨rfl, rfl⟩
theorem wd12 {Z : State} {a0 : Array Value} (hw : ∀ d ∈ tables_1, d.before a0 Z = true) : (Jvm.Cond.initialized "java/lang/String").before a0 Z = true := hw _ (List.mem_of_getElem? (i := 12) rfl)
theorem wd11 {Z : State} {a0 : Array Value} (hw : ∀ d ∈ tables_1, d.before a0 Z = true) : (Jvm.Cond.instantiable "java/lang/String" (4 : Nat)).before a0 Z = true := hw _ (List.mem_of_getElem? (i := 11) rfl)
theorem wd26 {Z : State} {a0 : Array Value} (hw : ∀ d ∈ tables_1, d.before a0 Z = true) : (Jvm.Cond.laysFinal "java/lang/String" "java/lang/String" "value" "[B").before a0 Z = true := hw _ (List.mem_of_getElem? (i := 26) rfl)
theorem wd27 {Z : State} {a0 : Array Value} (hw : ∀ d ∈ tables_1, d.before a0 Z = true) : (Jvm.Cond.laysFinal "java/lang/String" "java/lang/String" "coder" "B").before a0 Z = true := hw _ (List.mem_of_getElem? (i := 27) rfl)
theorem wd28 {Z : State} {a0 : Array Value} (hw : ∀ d ∈ tables_1, d.before a0 Z = true) : (Jvm.Cond.soleField "java/lang/String" "value").before a0 Z = true := hw _ (List.mem_of_getElem? (i := 28) rfl)
theorem wd29 {Z : State} {a0 : Array Value} (hw : ∀ d ∈ tables_1, d.before a0 Z = true) : (Jvm.Cond.soleField "java/lang/String" "coder").before a0 Z = true := hw _ (List.mem_of_getElem? (i := 29) rfl)
theorem wSw {Z : State} {a0 : Array Value} (hw : ∀ d ∈ tables_1, d.before a0 Z = true) : ∀ a ∈ Bundle.stringAtoms, a.before a0 Z = true := fun a ha => by
  simp only [Bundle.stringAtoms, List.mem_cons, List.not_mem_nil, or_false] at ha
  rcases ha with rfl | rfl | rfl | rfl | rfl | rfl | rfl
  · exact (wd12 hw)
  · exact (wd11 hw)
  · exact (wd25 hw)
  · exact (wd26 hw)
  · exact (wd27 hw)
  · exact (wd28 hw)
  · exact (wd29 hw)
theorem wd24 {Z : State} {a0 : Array Value} (hw : ∀ d ∈ tables_1, d.before a0 Z = true) : (Jvm.Cond.stringLink "java/lang/String" (7 : Nat) "").before a0 Z = true := hw _ (List.mem_of_getElem? (i := 24) rfl)
theorem hELw {Z : State} {a0 : Array Value} (hw : ∀ d ∈ tables_1, d.before a0 Z = true) : EW Z a0 consts_1 := (EW.cons (wd24 hw) (by decide) EW.nil)
theorem d_jdk_42_method_149_0 : decode jdk_42_method_149_code 0 = .ok (.aload_n 0, 1) := by decide +kernel
theorem d_jdk_42_method_149_1 : decode jdk_42_method_149_code 1 = .ok (.invokespecial 1, 3) := by decide +kernel
theorem wd21 {Z : State} {a0 : Array Value} (hw : ∀ d ∈ tables_1, d.before a0 Z = true) : (Jvm.Cond.methodLink "java/lang/String" (1 : Nat) ({ cls := "java/lang/Object", name := "<init>", desc := "()V" } : Jvm.MethodName)).before a0 Z = true := hw _ (List.mem_of_getElem? (i := 21) rfl)
theorem wd22 {Z : State} {a0 : Array Value} (hw : ∀ d ∈ tables_1, d.before a0 Z = true) : (Jvm.Cond.instanceMethod ({ cls := "java/lang/Object", name := "<init>", desc := "()V" } : Jvm.MethodName)).before a0 Z = true := hw _ (List.mem_of_getElem? (i := 22) rfl)
theorem wd23 {Z : State} {a0 : Array Value} (hw : ∀ d ∈ tables_1, d.before a0 Z = true) : (Jvm.Cond.code ({ cls := "java/lang/Object", name := "<init>", desc := "()V" } : Jvm.MethodName) object_method_1_code (1 : Nat) (Option.none : Option Jvm.ClassFile.FieldType)).before a0 Z = true := hw _ (List.mem_of_getElem? (i := 23) rfl)
theorem d_jdk_42_method_149_4 : decode jdk_42_method_149_code 4 = .ok (.iload_n 3, 1) := by decide +kernel
theorem d_jdk_42_method_149_5 : decode jdk_42_method_149_code 5 = .ok (.ifCond .ne 22, 3) := by decide +kernel
theorem d_jdk_42_method_149_27 : decode jdk_42_method_149_code 27 = .ok (.getstatic 38, 3) := by decide +kernel
theorem wd35 {Z : State} {a0 : Array Value} (hw : ∀ d ∈ tables_1, d.before a0 Z = true) : (Jvm.Cond.fieldLink "java/lang/String" (38 : Nat) "java/lang/String" "COMPACT_STRINGS" "Z").before a0 Z = true := hw _ (List.mem_of_getElem? (i := 35) rfl)
theorem d_jdk_42_method_149_30 : decode jdk_42_method_149_code 30 = .ok (.ifCond .eq 28, 3) := by decide +kernel
theorem d_jdk_42_method_149_33 : decode jdk_42_method_149_code 33 = .ok (.aload_n 1, 1) := by decide +kernel
theorem d_jdk_42_method_149_34 : decode jdk_42_method_149_code 34 = .ok (.iload_n 2, 1) := by decide +kernel
theorem d_jdk_42_method_149_35 : decode jdk_42_method_149_code 35 = .ok (.iload_n 3, 1) := by decide +kernel
theorem d_jdk_42_method_149_36 : decode jdk_42_method_149_code 36 = .ok (.invokestatic 177, 3) := by decide +kernel
theorem wd36 {Z : State} {a0 : Array Value} (hw : ∀ d ∈ tables_1, d.before a0 Z = true) : (Jvm.Cond.methodLink "java/lang/String" (177 : Nat) ({ cls := "java/lang/StringUTF16", name := "compress", desc := "([CII)[B" } : Jvm.MethodName)).before a0 Z = true := hw _ (List.mem_of_getElem? (i := 36) rfl)
theorem wd39 {Z : State} {a0 : Array Value} (hw : ∀ d ∈ tables_1, d.before a0 Z = true) : (Jvm.Cond.code ({ cls := "java/lang/StringUTF16", name := "compress", desc := "([CII)[B" } : Jvm.MethodName) jdk_52_method_16_code (6 : Nat) (Option.some (Jvm.ClassFile.FieldType.array Jvm.ClassFile.FieldType.byte))).before a0 Z = true := hw _ (List.mem_of_getElem? (i := 39) rfl)
theorem pd_1 : parseMethodDescriptor "([CII)[B" = some ⟨[(.array .char), .int, .int], some (.array .byte)⟩ := by decide +kernel
theorem wd37 {Z : State} {a0 : Array Value} (hw : ∀ d ∈ tables_1, d.before a0 Z = true) : (Jvm.Cond.static ({ cls := "java/lang/StringUTF16", name := "compress", desc := "([CII)[B" } : Jvm.MethodName)).before a0 Z = true := hw _ (List.mem_of_getElem? (i := 37) rfl)
theorem d_jdk_42_method_149_39 : decode jdk_42_method_149_code 39 = .ok (.astore 5, 2) := by decide +kernel
theorem d_jdk_42_method_149_41 : decode jdk_42_method_149_code 41 = .ok (.aload_n 0, 1) := by decide +kernel
theorem d_jdk_42_method_149_42 : decode jdk_42_method_149_code 42 = .ok (.aload 5, 2) := by decide +kernel
theorem d_jdk_42_method_149_44 : decode jdk_42_method_149_code 44 = .ok (.iload_n 3, 1) := by decide +kernel
theorem d_jdk_42_method_149_45 : decode jdk_42_method_149_code 45 = .ok (.invokestatic 47, 3) := by decide +kernel
theorem wd43 {Z : State} {a0 : Array Value} (hw : ∀ d ∈ tables_1, d.before a0 Z = true) : (Jvm.Cond.methodLink "java/lang/String" (47 : Nat) ({ cls := "java/lang/StringUTF16", name := "coderFromArrayLen", desc := "([BI)B" } : Jvm.MethodName)).before a0 Z = true := hw _ (List.mem_of_getElem? (i := 43) rfl)
theorem wd45 {Z : State} {a0 : Array Value} (hw : ∀ d ∈ tables_1, d.before a0 Z = true) : (Jvm.Cond.code ({ cls := "java/lang/StringUTF16", name := "coderFromArrayLen", desc := "([BI)B" } : Jvm.MethodName) jdk_52_method_15_code (2 : Nat) (Option.some Jvm.ClassFile.FieldType.byte)).before a0 Z = true := hw _ (List.mem_of_getElem? (i := 45) rfl)
theorem pd_2 : parseMethodDescriptor "([BI)B" = some ⟨[(.array .byte), .int], some .byte⟩ := by decide +kernel
theorem wd44 {Z : State} {a0 : Array Value} (hw : ∀ d ∈ tables_1, d.before a0 Z = true) : (Jvm.Cond.static ({ cls := "java/lang/StringUTF16", name := "coderFromArrayLen", desc := "([BI)B" } : Jvm.MethodName)).before a0 Z = true := hw _ (List.mem_of_getElem? (i := 44) rfl)
theorem d_jdk_42_method_149_48 : decode jdk_42_method_149_code 48 = .ok (.putfield 15, 3) := by decide +kernel
theorem wd31 {Z : State} {a0 : Array Value} (hw : ∀ d ∈ tables_1, d.before a0 Z = true) : (Jvm.Cond.fieldLink "java/lang/String" (15 : Nat) "java/lang/String" "coder" "B").before a0 Z = true := hw _ (List.mem_of_getElem? (i := 31) rfl)
theorem d_jdk_42_method_149_51 : decode jdk_42_method_149_code 51 = .ok (.aload_n 0, 1) := by decide +kernel
theorem d_jdk_42_method_149_52 : decode jdk_42_method_149_code 52 = .ok (.aload 5, 2) := by decide +kernel
theorem d_jdk_42_method_149_54 : decode jdk_42_method_149_code 54 = .ok (.putfield 9, 3) := by decide +kernel
theorem wd30 {Z : State} {a0 : Array Value} (hw : ∀ d ∈ tables_1, d.before a0 Z = true) : (Jvm.Cond.fieldLink "java/lang/String" (9 : Nat) "java/lang/String" "value" "[B").before a0 Z = true := hw _ (List.mem_of_getElem? (i := 30) rfl)
theorem d_jdk_42_method_149_57 : decode jdk_42_method_149_code 57 = .ok (.return_, 1) := by decide +kernel
theorem d_jdk_42_method_149_8 : decode jdk_42_method_149_code 8 = .ok (.aload_n 0, 1) := by decide +kernel
theorem d_jdk_42_method_149_9 : decode jdk_42_method_149_code 9 = .ok (.ldc 7, 2) := by decide +kernel
theorem d_jdk_42_method_149_11 : decode jdk_42_method_149_code 11 = .ok (.getfield 9, 3) := by decide +kernel
theorem d_jdk_42_method_149_14 : decode jdk_42_method_149_code 14 = .ok (.putfield 9, 3) := by decide +kernel
theorem d_jdk_42_method_149_17 : decode jdk_42_method_149_code 17 = .ok (.aload_n 0, 1) := by decide +kernel
theorem d_jdk_42_method_149_18 : decode jdk_42_method_149_code 18 = .ok (.ldc 7, 2) := by decide +kernel
theorem d_jdk_42_method_149_20 : decode jdk_42_method_149_code 20 = .ok (.getfield 15, 3) := by decide +kernel
theorem d_jdk_42_method_149_23 : decode jdk_42_method_149_code 23 = .ok (.putfield 15, 3) := by decide +kernel
theorem d_jdk_42_method_149_26 : decode jdk_42_method_149_code 26 = .ok (.return_, 1) := by decide +kernel
theorem pn_1 : plainName "java/lang/String" = true := by first | (simp [plainName, overriddenIn]; done) | decide +kernel
set_option maxRecDepth 65536 in
set_option maxHeartbeats 40000000 in
theorem s_si4 {Z : State} {a0 : Array Value} (hw : ∀ d ∈ tables_1, d.before a0 Z = true) (a : Addr) (c : Addr) (p : Int32) (h0 : Heap) (n0 : Nat) (Z0 : n0 ≤ h0.size) (g_a : n0 ≤ a) (E0 : Exa Z h0 a "java/lang/String") (F_v : Fld Z h0 a "java/lang/String" "value" "[B" .null) (F_c : Fld Z h0 a "java/lang/String" "coder" "B" (.int 0)) (cs : Int32) (S_CS : Sta Z h0 "java/lang/String" "COMPACT_STRINGS" "Z" (.int cs)) (hcs : ¬ cs = 0) (n : Nat) (gc : Nat → Int32) (A0 : Ari Z h0 c .char n gc) (hn : n ≤ 10000) (hcap : n ≤ 3) (hlat : Lat n gc) (n_ca : c ≠ a) (hp : p.toInt = (n : Int)) : ∀ l, DoesH l Z consts_1 (⟨"java/lang/String", "<init>", "([CIILjava/lang/Void;)V"⟩ : MethodName) jdk_42_method_149_code 6 none ({ frames := 2, cells := 4, slots := 8, locals := 35 } : Room) n0 #[(.ref a), (.ref c), (.int (0 : Int32)), (.int p), .null] h0 (fun v h => v = none ∧ ∃ b : Addr, Keep h0 h [a] ∧ Exa Z h a "java/lang/String" ∧ Fld Z h a "java/lang/String" "value" "[B" (.ref b) ∧ Fld Z h a "java/lang/String" "coder" "B" (.int 0) ∧ Ari Z h b .byte n (fun i => cv (gc i))) := by
  intro l
  refine DoesH.of_wp (plainFor_of_name pn_1) (Ls := #[.val (.ref a), .val (.ref c), .val (.int (0 : Int32)), .val (.int p), .val .null, .unset]) (fun m => by first | (simp [entryFrame, mkF, argsToLocals, Value.category]; done) | rfl | (rcases ref_cases hfv with rfl | ⟨_, rfl⟩ <;> rfl)) ?_
  intro C vm0 Hd0
  have K0 := Keep.refl h0 [a]
  have Sf0 : Safe Z consts_1 vm0 h0 a := Safe.ofNull Hd0.warm E0 F_v
  refine WP.aloadN (pc' := 1) d_jdk_42_method_149_0 rfl rfl rfl ?_
  refine WP.initO (wd := 0) (pc' := 4) d_jdk_42_method_149_1 rfl (wd21 hw) (wd22 hw) (wd23 hw) rfl (by decide) (Nat.le_of_eq rfl) (by decide) ?_
  refine WP.iloadN (pc' := 5) d_jdk_42_method_149_4 rfl rfl ?_
  refine WP.ifc_ne (pc1 := 27) (pc2 := 8) d_jdk_42_method_149_5 (by decide) (by decide) rfl ?_ ?_
  · intro hc5
    refine WP.getS (pc' := 30) d_jdk_42_method_149_27 rfl (host := "") (Or.inl (wd35 hw)) Via.refl (S_CS) ?_
    have hc30 : ¬ cs = (0 : Int32) := hcs
    refine WP.ifc_eq (pc1 := 58) (pc2 := 33) d_jdk_42_method_149_30 (by decide) (by decide) rfl (fun k => absurd k hc30) (fun _ => ?_)
    refine WP.aloadN (pc' := 34) d_jdk_42_method_149_33 rfl rfl rfl ?_
    refine WP.iloadN (pc' := 35) d_jdk_42_method_149_34 rfl rfl ?_
    refine WP.iloadN (pc' := 36) d_jdk_42_method_149_35 rfl rfl ?_
    refine WP.callS (argsL := [(.ref c), (.int (0 : Int32)), (.int p)]) (rest := []) (wd := 0) (cl' := 1) (sl' := 3) (pc' := 39) d_jdk_42_method_149_36 rfl (wd36 hw) (wd37 hw) (wd38 hw) (wd39 hw) (by decide) (s_c2 hw c p h0 n0 Z0 n gc A0 hp hn hcap hlat) pd_1 rfl rfl rfl (Nat.le_of_eq rfl) (by decide) (by decide) rfl rfl (by decide) (by decide) ?_
    rintro v h1 ⟨c1, rfl, K1, ge1, sz1, B1⟩
    have ne2 : a ≠ c1 := Nat.ne_of_lt (Nat.lt_of_lt_of_le E0.lt sz1)
    have ne3 : c ≠ c1 := Nat.ne_of_lt (Nat.lt_of_lt_of_le A0.lt sz1)
    have sy4 : h0.size ≤ c1 := Nat.le_trans K0.1 sz1
    have E5 := E0.keep K1
    have F6 := F_v.keep K1 nin0
    have F7 := F_c.keep K1 nin0
    have V8 := A0.keep K1 nin0
    have K9 := K0.trans K1 all0
    have Sf10 := Safe.keep K1 all0 Hd0.ch Sf0
    have Hd11 := Hd0.keep K1 all0
    have Z12 : n0 ≤ h1.size := Nat.le_trans Z0 K1.1
    refine WP.castS (st' := [(.ref c1)]) rfl ?_
    refine WP.astore (pc' := 41) d_jdk_42_method_149_39 rfl rfl (Ls' := #[.val (.ref a), .val (.ref c), .val (.int (0 : Int32)), .val (.int p), .val .null, .val (.ref c1)]) rfl ?_
    refine WP.aloadN (pc' := 42) d_jdk_42_method_149_41 rfl rfl rfl ?_
    refine WP.aload (pc' := 44) d_jdk_42_method_149_42 rfl rfl rfl ?_
    refine WP.iloadN (pc' := 45) d_jdk_42_method_149_44 rfl rfl ?_
    refine WP.callS (argsL := [(.ref c1), (.int p)]) (rest := [(.ref a)]) (wd := 1) (cl' := 1) (sl' := 3) (pc' := 48) d_jdk_42_method_149_45 rfl (wd43 hw) (wd44 hw) (wd38 hw) (wd45 hw) (by decide) (s_cfl hw c1 p h1 n0 n (fun i => cv (gc i)) B1 hp hn) pd_2 rfl rfl rfl (Nat.le_of_eq rfl) (by decide) (by decide) rfl rfl (by decide) (by decide) ?_
    rintro v hh13 ⟨rfl, he13⟩
    rw [he13]
    refine WP.castS (st' := [(.int (0 : Int32)), (.ref a)]) rfl ?_
    refine WP.putFN (pc' := 51) d_jdk_42_method_149_48 rfl (wd31 hw) Via.refl F7 E5 (Or.inr ⟨(wd27 hw), rfl, rfl⟩) (wd11 hw) (ty := .byte) (v' := (.int (0 : Int32))) (by decide) rfl (by decide) g_a ?_
    intro h14 W15
    have Kw16 := Keep.of_wr W15
    have E17 := E5.keep Kw16
    have V18 := V8.keep Kw16 (ninS n_ca nin0)
    have V19 := B1.keep Kw16 (ninS (Ne.symm ne2) nin0)
    have K20 := K9.trans Kw16 (allS (Or.inl (by simp)) all0)
    have Sf21 := Safe.keep Kw16 (allS Sf10 all0) Hd11.ch Sf10
    have Hd22 := Hd11.keep Kw16 (allS Sf10 all0)
    have Z23 : n0 ≤ h14.size := Nat.le_trans Z12 Kw16.1
    have F24 := F6.other W15 (Or.inr (slot_ne (Or.inr (wd26 hw)) (Or.inr (wd27 hw)) (by decide) (t := (.array .byte)) (t' := .byte) (by decide) (by decide)))
    have F25 := F7.same W15
    refine WP.aloadN (pc' := 52) d_jdk_42_method_149_51 rfl rfl rfl ?_
    refine WP.aload (pc' := 54) d_jdk_42_method_149_52 rfl rfl rfl ?_
    refine WP.putF (pc' := 57) d_jdk_42_method_149_54 rfl (host := "") (Or.inl (wd30 hw)) Via.refl F24 E17 (Or.inr ⟨(wd26 hw), rfl, rfl⟩) (wd11 hw) (ty := (.array .byte)) (by decide) rfl rfl g_a ?_
    intro h26 W27
    have Kw28 := Keep.of_wr W27
    have E29 := E17.keep Kw28
    have V30 := V18.keep Kw28 (ninS n_ca nin0)
    have V31 := V19.keep Kw28 (ninS (Ne.symm ne2) nin0)
    have K32 := K20.trans Kw28 (allS (Or.inl (by simp)) all0)
    have Sf33 := Safe.keep Kw28 (allS Sf21 all0) Hd22.ch Sf21
    have Hd34 := Hd22.keep Kw28 (allS Sf21 all0)
    have Z35 : n0 ≤ h26.size := Nat.le_trans Z23 Kw28.1
    have F36 := F24.same W27
    have F37 := F25.other W27 (Or.inr (slot_ne (Or.inr (wd27 hw)) (Or.inr (wd26 hw)) (by decide) (t := .byte) (t' := (.array .byte)) (by decide) (by decide)))
    exact WP.vretH d_jdk_42_method_149_57 rfl (hELw hw) Hd34 (by decide) (by decide) ⟨rfl, _, K32, E29, F36, F37, V31⟩
  · intro hc5
    refine WP.aloadN (pc' := 9) d_jdk_42_method_149_8 rfl rfl rfl ?_
    refine WP.ldcH (n := 0) (vs := []) (z := 0) (cl' := 2) (sl' := 4) (pc' := 11) d_jdk_42_method_149_9 rfl (wd24 hw) (wSw hw) (hELw hw) (List.mem_of_getElem? (i := 0) rfl) Hd0 ⟨by decide, by decide⟩ (by decide) rfl (by decide) (by decide) rfl rfl (by decide) (by decide) ?_
    intro vm38 h38 la38 lb38 lk38 E38 X38 Fc38 Fv38 A38 Hd38 Cr38 Ne38
    have Sf39 := Cr38.safe E0.lt Sf0
    have E40 := E0.ext E38
    have F41 := F_v.ext E38
    have F42 := F_c.ext E38
    have V43 := A0.ext E38
    have K44 := K0.ext E38
    have Z45 : n0 ≤ h38.size := Nat.le_trans Z0 E38.1
    have ne46 : a ≠ la38 := (Ne38 _ Sf39).1
    have ne47 : a ≠ lb38 := (Ne38 _ Sf39).2
    have AL38 := Ari.of_arv (L := []) A38 rfl rfl (by decide)
    refine WP.getF (pc' := 14) d_jdk_42_method_149_11 rfl (host := "") (Or.inl (wd30 hw)) Via.refl Fv38 ?_
    refine WP.putF (pc' := 17) d_jdk_42_method_149_14 rfl (host := "") (Or.inl (wd30 hw)) Via.refl F41 E40 (Or.inr ⟨(wd26 hw), rfl, rfl⟩) (wd11 hw) (ty := (.array .byte)) (by decide) rfl rfl g_a ?_
    intro h48 W49
    have Kw50 := Keep.of_wr W49
    have E51 := E40.keep Kw50
    have V52 := V43.keep Kw50 (ninS n_ca nin0)
    have E53 := X38.keep Kw50
    have F54 := Fc38.keep Kw50 (ninS (Ne.symm ne46) nin0)
    have F55 := Fv38.keep Kw50 (ninS (Ne.symm ne46) nin0)
    have V56 := AL38.keep Kw50 (ninS (Ne.symm ne47) nin0)
    have K57 := K44.trans Kw50 (allS (Or.inl (by simp)) all0)
    have Sf58 := Safe.keep Kw50 (allS Sf39 all0) Hd38.ch Sf39
    have Hd59 := Hd38.keep Kw50 (allS Sf39 all0)
    have Z60 : n0 ≤ h48.size := Nat.le_trans Z45 Kw50.1
    have F61 := F41.same W49
    have F62 := F42.other W49 (Or.inr (slot_ne (Or.inr (wd27 hw)) (Or.inr (wd26 hw)) (by decide) (t := .byte) (t' := (.array .byte)) (by decide) (by decide)))
    refine WP.aloadN (pc' := 18) d_jdk_42_method_149_17 rfl rfl rfl ?_
    refine WP.ldcH (n := 0) (vs := []) (z := 0) (cl' := 4) (sl' := 8) (pc' := 20) d_jdk_42_method_149_18 rfl (wd24 hw) (wSw hw) (hELw hw) (List.mem_of_getElem? (i := 0) rfl) Hd59 ⟨by decide, by decide⟩ (by decide) rfl (by decide) (by decide) rfl rfl (by decide) (by decide) ?_
    intro vm63 h63 la63 lb63 lk63 E63 X63 Fc63 Fv63 A63 Hd63 Cr63 Ne63
    have Sf64 := Cr63.safe E51.lt Sf58
    have E65 := E51.ext E63
    have V66 := V52.ext E63
    have E67 := E53.ext E63
    have F68 := F54.ext E63
    have F69 := F55.ext E63
    have V70 := V56.ext E63
    have F71 := F61.ext E63
    have F72 := F62.ext E63
    have K73 := K57.ext E63
    have Z74 : n0 ≤ h63.size := Nat.le_trans Z60 E63.1
    have ne75 : a ≠ la63 := (Ne63 _ Sf64).1
    have ne76 : a ≠ lb63 := (Ne63 _ Sf64).2
    have AL63 := Ari.of_arv (L := []) A63 rfl rfl (by decide)
    refine WP.getF (pc' := 23) d_jdk_42_method_149_20 rfl (host := "") (Or.inl (wd31 hw)) Via.refl Fc63 ?_
    refine WP.putFN (pc' := 26) d_jdk_42_method_149_23 rfl (wd31 hw) Via.refl F72 E65 (Or.inr ⟨(wd27 hw), rfl, rfl⟩) (wd11 hw) (ty := .byte) (v' := (.int (0 : Int32))) (by decide) rfl (by decide) g_a ?_
    intro h77 W78
    have Kw79 := Keep.of_wr W78
    have E80 := E65.keep Kw79
    have V81 := V66.keep Kw79 (ninS n_ca nin0)
    have E82 := E67.keep Kw79
    have F83 := F68.keep Kw79 (ninS (Ne.symm ne46) nin0)
    have F84 := F69.keep Kw79 (ninS (Ne.symm ne46) nin0)
    have V85 := V70.keep Kw79 (ninS (Ne.symm ne47) nin0)
    have E86 := X63.keep Kw79
    have F87 := Fc63.keep Kw79 (ninS (Ne.symm ne75) nin0)
    have F88 := Fv63.keep Kw79 (ninS (Ne.symm ne75) nin0)
    have V89 := AL63.keep Kw79 (ninS (Ne.symm ne76) nin0)
    have K90 := K73.trans Kw79 (allS (Or.inl (by simp)) all0)
    have Sf91 := Safe.keep Kw79 (allS Sf64 all0) Hd63.ch Sf64
    have Hd92 := Hd63.keep Kw79 (allS Sf64 all0)
    have Z93 : n0 ≤ h77.size := Nat.le_trans Z74 Kw79.1
    have F94 := F71.other W78 (Or.inr (slot_ne (Or.inr (wd26 hw)) (Or.inr (wd27 hw)) (by decide) (t := (.array .byte)) (t' := .byte) (by decide) (by decide)))
    have F95 := F72.same W78
    exact WP.vretH d_jdk_42_method_149_26 rfl (hELw hw) Hd92 (by decide) (by decide) ⟨rfl, _, K90, E80, F94, F95, (Ari.nil V85 (by rw [hc5] at hp; have e : (0 : Int32).toInt = 0 := rfl; omega))⟩
theorem d_jdk_42_method_3_0 : decode jdk_42_method_3_code 0 = .ok (.aload_n 0, 1) := by decide +kernel
theorem d_jdk_42_method_3_1 : decode jdk_42_method_3_code 1 = .ok (.aload_n 1, 1) := by decide +kernel
theorem d_jdk_42_method_3_2 : decode jdk_42_method_3_code 2 = .ok (.iconst 0, 1) := by decide +kernel
theorem d_jdk_42_method_3_3 : decode jdk_42_method_3_code 3 = .ok (.aload_n 1, 1) := by decide +kernel
theorem d_jdk_42_method_3_4 : decode jdk_42_method_3_code 4 = .ok (.arraylength, 1) := by decide +kernel
theorem d_jdk_42_method_3_5 : decode jdk_42_method_3_code 5 = .ok (.aconst_null, 1) := by decide +kernel
theorem d_jdk_42_method_3_6 : decode jdk_42_method_3_code 6 = .ok (.invokespecial 27, 3) := by decide +kernel
theorem wd17 {Z : State} {a0 : Array Value} (hw : ∀ d ∈ tables_1, d.before a0 Z = true) : (Jvm.Cond.methodLink "java/lang/String" (27 : Nat) ({ cls := "java/lang/String", name := "<init>", desc := "([CIILjava/lang/Void;)V" } : Jvm.MethodName)).before a0 Z = true := hw _ (List.mem_of_getElem? (i := 17) rfl)
theorem wd20 {Z : State} {a0 : Array Value} (hw : ∀ d ∈ tables_1, d.before a0 Z = true) : (Jvm.Cond.code ({ cls := "java/lang/String", name := "<init>", desc := "([CIILjava/lang/Void;)V" } : Jvm.MethodName) jdk_42_method_149_code (6 : Nat) (Option.none : Option Jvm.ClassFile.FieldType)).before a0 Z = true := hw _ (List.mem_of_getElem? (i := 20) rfl)
theorem pd_3 : parseMethodDescriptor "([CIILjava/lang/Void;)V" = some ⟨[(.array .char), .int, .int, (.object "java/lang/Void")], none⟩ := by decide +kernel
theorem wd18 {Z : State} {a0 : Array Value} (hw : ∀ d ∈ tables_1, d.before a0 Z = true) : (Jvm.Cond.instanceMethod ({ cls := "java/lang/String", name := "<init>", desc := "([CIILjava/lang/Void;)V" } : Jvm.MethodName)).before a0 Z = true := hw _ (List.mem_of_getElem? (i := 18) rfl)
theorem d_jdk_42_method_3_9 : decode jdk_42_method_3_code 9 = .ok (.return_, 1) := by decide +kernel
set_option maxRecDepth 65536 in
set_option maxHeartbeats 40000000 in
theorem s_si {Z : State} {a0 : Array Value} (hw : ∀ d ∈ tables_1, d.before a0 Z = true) (a : Addr) (c : Addr) (h0 : Heap) (n0 : Nat) (Z0 : n0 ≤ h0.size) (g_a : n0 ≤ a) (E0 : Exa Z h0 a "java/lang/String") (F_v : Fld Z h0 a "java/lang/String" "value" "[B" .null) (F_c : Fld Z h0 a "java/lang/String" "coder" "B" (.int 0)) (cs : Int32) (S_CS : Sta Z h0 "java/lang/String" "COMPACT_STRINGS" "Z" (.int cs)) (hcs : ¬ cs = 0) (n : Nat) (gc : Nat → Int32) (A0 : Ari Z h0 c .char n gc) (hn : n ≤ 10000) (hcap : n ≤ 3) (hlat : Lat n gc) (n_ca : c ≠ a) : ∀ l, DoesH l Z consts_1 (⟨"java/lang/String", "<init>", "([C)V"⟩ : MethodName) jdk_42_method_3_code 2 none ({ frames := 3, cells := 4, slots := 8, locals := 52 } : Room) n0 #[(.ref a), (.ref c)] h0 (fun v h => v = none ∧ ∃ b : Addr, Keep h0 h [a] ∧ Exa Z h a "java/lang/String" ∧ Fld Z h a "java/lang/String" "value" "[B" (.ref b) ∧ Fld Z h a "java/lang/String" "coder" "B" (.int 0) ∧ Ari Z h b .byte n (fun i => cv (gc i))) := by
  intro l
  refine DoesH.of_wp (plainFor_of_name pn_1) (Ls := #[.val (.ref a), .val (.ref c)]) (fun m => by first | (simp [entryFrame, mkF, argsToLocals, Value.category]; done) | rfl | (rcases ref_cases hfv with rfl | ⟨_, rfl⟩ <;> rfl)) ?_
  intro C vm0 Hd0
  have K0 := Keep.refl h0 [a]
  have Sf0 : Safe Z consts_1 vm0 h0 a := Safe.ofNull Hd0.warm E0 F_v
  refine WP.aloadN (pc' := 1) d_jdk_42_method_3_0 rfl rfl rfl ?_
  refine WP.aloadN (pc' := 2) d_jdk_42_method_3_1 rfl rfl rfl ?_
  refine WP.iconst (pc' := 3) d_jdk_42_method_3_2 rfl (z := 0) rfl ?_
  refine WP.aloadN (pc' := 4) d_jdk_42_method_3_3 rfl rfl rfl ?_
  refine WP.arraylengthI (z := (n : Nat).toInt32) (pc' := 5) d_jdk_42_method_3_4 rfl A0 rfl ?_
  refine WP.aconstNull (pc' := 6) d_jdk_42_method_3_5 rfl ?_
  refine WP.callIH (a := a) (argsL := [(.ref c), (.int (0 : Int32)), (.int (n : Nat).toInt32), .null]) (rest := []) (wd := 0) (cl' := 4) (sl' := 8) (pc' := 9) d_jdk_42_method_3_6 rfl rfl (wd17 hw) (wd18 hw) (wd12 hw) (wd20 hw) (by decide) (hELw hw) Hd0 (s_si4 hw a c (n : Nat).toInt32 h0 n0 Z0 g_a E0 F_v F_c cs S_CS hcs n gc A0 hn hcap hlat n_ca (natI (by omega))) pd_3 rfl rfl rfl (Nat.le_of_eq rfl) (by decide) (by decide) rfl rfl (by decide) (by decide) ?_
  rintro v vm1 h1 ⟨rfl, c1, K1, E1, Fv1, Fc1, B1⟩ Hd1 Cr1
  have Sf2 := Cr1.safe E0.lt Sf0
  have E3 := E0.keep K1
  have V4 := A0.keep K1 (ninS n_ca nin0)
  have K5 := K0.trans K1 (allS (Or.inl (by simp)) all0)
  have Z6 : n0 ≤ h1.size := Nat.le_trans Z0 K1.1
  refine WP.castS (st' := []) rfl ?_
  exact WP.vretH d_jdk_42_method_3_9 rfl (hELw hw) Hd1 (by decide) (by decide) ⟨rfl, _, K5, E1, Fv1, Fc1, B1⟩
theorem d_jdk_43_method_3_0 : decode jdk_43_method_3_code 0 = .ok (.iload_n 0, 1) := by decide +kernel
theorem d_jdk_43_method_3_1 : decode jdk_43_method_3_code 1 = .ok (.sipush 255, 3) := by decide +kernel
theorem d_jdk_43_method_3_4 : decode jdk_43_method_3_code 4 = .ok (.if_icmp .gt 7, 3) := by decide +kernel
theorem d_jdk_43_method_3_7 : decode jdk_43_method_3_code 7 = .ok (.iconst 1, 1) := by decide +kernel
theorem d_jdk_43_method_3_8 : decode jdk_43_method_3_code 8 = .ok (.goto 4, 3) := by decide +kernel
theorem d_jdk_43_method_3_12 : decode jdk_43_method_3_code 12 = .ok (.ireturn, 1) := by decide +kernel
theorem pn_2 : plainName "java/lang/StringLatin1" = true := by first | (simp [plainName, overriddenIn]; done) | decide +kernel
set_option maxRecDepth 65536 in
set_option maxHeartbeats 40000000 in
theorem s_ce {Z : State} {a0 : Array Value} (hw : ∀ d ∈ tables_1, d.before a0 Z = true) (c : Int32) (h0 : Heap) (n0 : Nat) (hc : 0 ≤ c.toInt ∧ c.toInt ≤ 255) : ∀ l, Does l Z (⟨"java/lang/StringLatin1", "canEncode", "(C)Z"⟩ : MethodName) jdk_43_method_3_code 1 (some .boolean) ({ frames := 0, cells := 0, slots := 0, locals := 0 } : Room) n0 #[(.int c)] h0 (fun v h => v = some (.int 1) ∧ h = h0) := by
  intro l
  refine Does.of_wp (plainFor_of_name pn_2) (Ls := #[.val (.int c)]) (fun m => by first | (simp [entryFrame, mkF, argsToLocals, Value.category]; done) | rfl | (rcases ref_cases hfv with rfl | ⟨_, rfl⟩ <;> rfl)) ?_
  intro C
  refine WP.iloadN (pc' := 1) d_jdk_43_method_3_0 rfl rfl ?_
  refine WP.sipush (pc' := 4) d_jdk_43_method_3_1 rfl (z := 255) rfl ?_
  have hc4 : ¬ (255 : Int32) < c := by rw [Int32.lt_iff_toInt_lt]; have e : (255 : Int32).toInt = 255 := rfl; omega
  refine WP.icmp_gt (pc1 := 11) (pc2 := 7) d_jdk_43_method_3_4 (by decide) (by decide) rfl (fun k => absurd k hc4) (fun _ => ?_)
  refine WP.iconst (pc' := 8) d_jdk_43_method_3_7 rfl (z := 1) rfl ?_
  refine WP.goto (pc' := 12) d_jdk_43_method_3_8 (by decide) (by decide) ?_
  refine WP.nret (t := .boolean) d_jdk_43_method_3_12 rfl (by simp) rfl (by decide) (by decide) ⟨rfl, rfl⟩
theorem d_jdk_43_method_46_0 : decode jdk_43_method_46_code 0 = .ok (.iconst 1, 1) := by decide +kernel
theorem d_jdk_43_method_46_1 : decode jdk_43_method_46_code 1 = .ok (.newarray .byte, 2) := by decide +kernel
theorem d_jdk_43_method_46_3 : decode jdk_43_method_46_code 3 = .ok (.dup, 1) := by decide +kernel
theorem d_jdk_43_method_46_4 : decode jdk_43_method_46_code 4 = .ok (.iconst 0, 1) := by decide +kernel
theorem d_jdk_43_method_46_5 : decode jdk_43_method_46_code 5 = .ok (.iload_n 0, 1) := by decide +kernel
theorem d_jdk_43_method_46_6 : decode jdk_43_method_46_code 6 = .ok (.i2b, 1) := by decide +kernel
theorem d_jdk_43_method_46_7 : decode jdk_43_method_46_code 7 = .ok (.bastore, 1) := by decide +kernel
theorem d_jdk_43_method_46_8 : decode jdk_43_method_46_code 8 = .ok (.areturn, 1) := by decide +kernel
set_option maxRecDepth 65536 in
set_option maxHeartbeats 40000000 in
theorem s_tb {Z : State} {a0 : Array Value} (hw : ∀ d ∈ tables_1, d.before a0 Z = true) (c : Int32) (h0 : Heap) (n0 : Nat) (Z0 : n0 ≤ h0.size) : ∀ l, Does l Z (⟨"java/lang/StringLatin1", "toBytes", "(C)[B"⟩ : MethodName) jdk_43_method_46_code 1 (some (.array .byte)) ({ frames := 0, cells := 1, slots := 1, locals := 0 } : Room) n0 #[(.int c)] h0 (fun v h => ∃ b : Addr, v = some (.ref b) ∧ Keep h0 h [] ∧ n0 ≤ b ∧ h0.size ≤ b ∧ Ari Z h b .byte 1 (fun _ => cv c)) := by
  intro l
  refine Does.of_wp (plainFor_of_name pn_2) (Ls := #[.val (.int c)]) (fun m => by first | (simp [entryFrame, mkF, argsToLocals, Value.category]; done) | rfl | (rcases ref_cases hfv with rfl | ⟨_, rfl⟩ <;> rfl)) ?_
  intro C
  have K0 := Keep.refl h0 []
  refine WP.iconst (pc' := 1) d_jdk_43_method_46_0 rfl (z := 1) rfl ?_
  refine WP.newPI (ty := .byte) (n := 1) (cap := 1) (cl' := 1) (sl' := 1) (pc' := 3) d_jdk_43_method_46_1 rfl rfl rfl (wd25 hw) (by decide) (by decide) (by decide) rfl rfl (by decide) (by decide) ?_
  intro h1 b1 g1 E1 A1
  have ge2 : n0 ≤ b1 := by rw [g1]; exact Z0
  have sz3 : h0.size ≤ b1 := by rw [g1]; exact K0.1
  have K4 := K0.ext E1
  have Z5 : n0 ≤ h1.size := Nat.le_trans Z0 E1.1
  refine WP.dup (pc' := 4) d_jdk_43_method_46_3 rfl rfl ?_
  refine WP.iconst (pc' := 5) d_jdk_43_method_46_4 rfl (z := 0) rfl ?_
  refine WP.iloadN (pc' := 6) d_jdk_43_method_46_5 rfl rfl ?_
  refine WP.i2b (pc' := 7) d_jdk_43_method_46_6 rfl ?_
  refine WP.bastoreI (x' := (nar .byte (c.toInt8.toInt32))) (0) (pc' := 8) d_jdk_43_method_46_7 rfl A1 (by decide) (by decide) ge2 rfl ?_
  intro h6 K7 A8
  have K9 := K4.trans K7 (allS (Or.inr sz3) all0)
  have Z10 : n0 ≤ h6.size := Nat.le_trans Z5 K7.1
  refine WP.aret d_jdk_43_method_46_8 rfl rfl rfl (by decide) (by decide) ⟨_, rfl, K9, ge2, sz3, A8.congr fun j hj => by rw [show j = 0 by omega, upd_at]; exact cv_cv c⟩
theorem d_jdk_42_method_151_0 : decode jdk_42_method_151_code 0 = .ok (.aload_n 0, 1) := by decide +kernel
theorem d_jdk_42_method_151_1 : decode jdk_42_method_151_code 1 = .ok (.invokespecial 1, 3) := by decide +kernel
theorem d_jdk_42_method_151_4 : decode jdk_42_method_151_code 4 = .ok (.aload_n 0, 1) := by decide +kernel
theorem d_jdk_42_method_151_5 : decode jdk_42_method_151_code 5 = .ok (.aload_n 1, 1) := by decide +kernel
theorem d_jdk_42_method_151_6 : decode jdk_42_method_151_code 6 = .ok (.putfield 9, 3) := by decide +kernel
theorem d_jdk_42_method_151_9 : decode jdk_42_method_151_code 9 = .ok (.aload_n 0, 1) := by decide +kernel
theorem d_jdk_42_method_151_10 : decode jdk_42_method_151_code 10 = .ok (.iload_n 2, 1) := by decide +kernel
theorem d_jdk_42_method_151_11 : decode jdk_42_method_151_code 11 = .ok (.putfield 15, 3) := by decide +kernel
theorem d_jdk_42_method_151_14 : decode jdk_42_method_151_code 14 = .ok (.return_, 1) := by decide +kernel
set_option maxRecDepth 65536 in
set_option maxHeartbeats 40000000 in
theorem s_sib {Z : State} {a0 : Array Value} (hw : ∀ d ∈ tables_1, d.before a0 Z = true) (a : Addr) (b : Addr) (h0 : Heap) (n0 : Nat) (g_a : n0 ≤ a) (E0 : Exa Z h0 a "java/lang/String") (F_v : Fld Z h0 a "java/lang/String" "value" "[B" .null) (F_c : Fld Z h0 a "java/lang/String" "coder" "B" (.int 0)) : ∀ l, Does l Z (⟨"java/lang/String", "<init>", "([BB)V"⟩ : MethodName) jdk_42_method_151_code 3 none ({ frames := 1, cells := 0, slots := 0, locals := 12 } : Room) n0 #[(.ref a), (.ref b), (.int (0 : Int32))] h0 (fun v h => v = none ∧ Keep h0 h [a] ∧ Exa Z h a "java/lang/String" ∧ Fld Z h a "java/lang/String" "value" "[B" (.ref b) ∧ Fld Z h a "java/lang/String" "coder" "B" (.int 0)) := by
  intro l
  refine Does.of_wp (plainFor_of_name pn_1) (Ls := #[.val (.ref a), .val (.ref b), .val (.int (0 : Int32))]) (fun m => by first | (simp [entryFrame, mkF, argsToLocals, Value.category]; done) | rfl | (rcases ref_cases hfv with rfl | ⟨_, rfl⟩ <;> rfl)) ?_
  intro C
  have K0 := Keep.refl h0 [a]
  refine WP.aloadN (pc' := 1) d_jdk_42_method_151_0 rfl rfl rfl ?_
  refine WP.initO (wd := 0) (pc' := 4) d_jdk_42_method_151_1 rfl (wd21 hw) (wd22 hw) (wd23 hw) rfl (by decide) (Nat.le_of_eq rfl) (by decide) ?_
  refine WP.aloadN (pc' := 5) d_jdk_42_method_151_4 rfl rfl rfl ?_
  refine WP.aloadN (pc' := 6) d_jdk_42_method_151_5 rfl rfl rfl ?_
  refine WP.putF (pc' := 9) d_jdk_42_method_151_6 rfl (host := "") (Or.inl (wd30 hw)) Via.refl F_v E0 (Or.inr ⟨(wd26 hw), rfl, rfl⟩) (wd11 hw) (ty := (.array .byte)) (by decide) rfl rfl g_a ?_
  intro h1 W2
  have Kw3 := Keep.of_wr W2
  have E4 := E0.keep Kw3
  have K5 := K0.trans Kw3 (allS (Or.inl (by simp)) all0)
  have F7 := F_v.same W2
  have F8 := F_c.other W2 (Or.inr (slot_ne (Or.inr (wd27 hw)) (Or.inr (wd26 hw)) (by decide) (t := .byte) (t' := (.array .byte)) (by decide) (by decide)))
  refine WP.aloadN (pc' := 10) d_jdk_42_method_151_9 rfl rfl rfl ?_
  refine WP.iloadN (pc' := 11) d_jdk_42_method_151_10 rfl rfl ?_
  refine WP.putFN (pc' := 14) d_jdk_42_method_151_11 rfl (wd31 hw) Via.refl F8 E4 (Or.inr ⟨(wd27 hw), rfl, rfl⟩) (wd11 hw) (ty := .byte) (v' := (.int (0 : Int32))) (by decide) rfl (by decide) g_a ?_
  intro h9 W10
  have Kw11 := Keep.of_wr W10
  have E12 := E4.keep Kw11
  have K13 := K5.trans Kw11 (allS (Or.inl (by simp)) all0)
  have F15 := F7.other W10 (Or.inr (slot_ne (Or.inr (wd26 hw)) (Or.inr (wd27 hw)) (by decide) (t := (.array .byte)) (t' := .byte) (by decide) (by decide)))
  have F16 := F8.same W10
  exact WP.vret d_jdk_42_method_151_14 rfl (by decide) (by decide) ⟨rfl, K13, E12, F15, F16⟩
theorem d_jdk_42_method_139_0 : decode jdk_42_method_139_code 0 = .ok (.getstatic 38, 3) := by decide +kernel
theorem d_jdk_42_method_139_3 : decode jdk_42_method_139_code 3 = .ok (.ifCond .eq 23, 3) := by decide +kernel
theorem d_jdk_42_method_139_6 : decode jdk_42_method_139_code 6 = .ok (.iload_n 0, 1) := by decide +kernel
theorem d_jdk_42_method_139_7 : decode jdk_42_method_139_code 7 = .ok (.invokestatic 1015, 3) := by decide +kernel
theorem wd49 {Z : State} {a0 : Array Value} (hw : ∀ d ∈ tables_1, d.before a0 Z = true) : (Jvm.Cond.methodLink "java/lang/String" (1015 : Nat) ({ cls := "java/lang/StringLatin1", name := "canEncode", desc := "(C)Z" } : Jvm.MethodName)).before a0 Z = true := hw _ (List.mem_of_getElem? (i := 49) rfl)
theorem wd52 {Z : State} {a0 : Array Value} (hw : ∀ d ∈ tables_1, d.before a0 Z = true) : (Jvm.Cond.code ({ cls := "java/lang/StringLatin1", name := "canEncode", desc := "(C)Z" } : Jvm.MethodName) jdk_43_method_3_code (1 : Nat) (Option.some Jvm.ClassFile.FieldType.boolean)).before a0 Z = true := hw _ (List.mem_of_getElem? (i := 52) rfl)
theorem wd51 {Z : State} {a0 : Array Value} (hw : ∀ d ∈ tables_1, d.before a0 Z = true) : (Jvm.Cond.initialized "java/lang/StringLatin1").before a0 Z = true := hw _ (List.mem_of_getElem? (i := 51) rfl)
theorem pd_4 : parseMethodDescriptor "(C)Z" = some ⟨[.char], some .boolean⟩ := by decide +kernel
theorem wd50 {Z : State} {a0 : Array Value} (hw : ∀ d ∈ tables_1, d.before a0 Z = true) : (Jvm.Cond.static ({ cls := "java/lang/StringLatin1", name := "canEncode", desc := "(C)Z" } : Jvm.MethodName)).before a0 Z = true := hw _ (List.mem_of_getElem? (i := 50) rfl)
theorem d_jdk_42_method_139_10 : decode jdk_42_method_139_code 10 = .ok (.ifCond .eq 16, 3) := by decide +kernel
theorem d_jdk_42_method_139_13 : decode jdk_42_method_139_code 13 = .ok (.new 10, 3) := by decide +kernel
theorem wd53 {Z : State} {a0 : Array Value} (hw : ∀ d ∈ tables_1, d.before a0 Z = true) : (Jvm.Cond.classLink "java/lang/String" (10 : Nat) "java/lang/String").before a0 Z = true := hw _ (List.mem_of_getElem? (i := 53) rfl)
theorem d_jdk_42_method_139_16 : decode jdk_42_method_139_code 16 = .ok (.dup, 1) := by decide +kernel
theorem d_jdk_42_method_139_17 : decode jdk_42_method_139_code 17 = .ok (.iload_n 0, 1) := by decide +kernel
theorem d_jdk_42_method_139_18 : decode jdk_42_method_139_code 18 = .ok (.invokestatic 1018, 3) := by decide +kernel
theorem wd54 {Z : State} {a0 : Array Value} (hw : ∀ d ∈ tables_1, d.before a0 Z = true) : (Jvm.Cond.methodLink "java/lang/String" (1018 : Nat) ({ cls := "java/lang/StringLatin1", name := "toBytes", desc := "(C)[B" } : Jvm.MethodName)).before a0 Z = true := hw _ (List.mem_of_getElem? (i := 54) rfl)
theorem wd56 {Z : State} {a0 : Array Value} (hw : ∀ d ∈ tables_1, d.before a0 Z = true) : (Jvm.Cond.code ({ cls := "java/lang/StringLatin1", name := "toBytes", desc := "(C)[B" } : Jvm.MethodName) jdk_43_method_46_code (1 : Nat) (Option.some (Jvm.ClassFile.FieldType.array Jvm.ClassFile.FieldType.byte))).before a0 Z = true := hw _ (List.mem_of_getElem? (i := 56) rfl)
theorem pd_5 : parseMethodDescriptor "(C)[B" = some ⟨[.char], some (.array .byte)⟩ := by decide +kernel
theorem wd55 {Z : State} {a0 : Array Value} (hw : ∀ d ∈ tables_1, d.before a0 Z = true) : (Jvm.Cond.static ({ cls := "java/lang/StringLatin1", name := "toBytes", desc := "(C)[B" } : Jvm.MethodName)).before a0 Z = true := hw _ (List.mem_of_getElem? (i := 55) rfl)
theorem d_jdk_42_method_139_21 : decode jdk_42_method_139_code 21 = .ok (.iconst 0, 1) := by decide +kernel
theorem d_jdk_42_method_139_22 : decode jdk_42_method_139_code 22 = .ok (.invokespecial 209, 3) := by decide +kernel
theorem wd57 {Z : State} {a0 : Array Value} (hw : ∀ d ∈ tables_1, d.before a0 Z = true) : (Jvm.Cond.methodLink "java/lang/String" (209 : Nat) ({ cls := "java/lang/String", name := "<init>", desc := "([BB)V" } : Jvm.MethodName)).before a0 Z = true := hw _ (List.mem_of_getElem? (i := 57) rfl)
theorem wd59 {Z : State} {a0 : Array Value} (hw : ∀ d ∈ tables_1, d.before a0 Z = true) : (Jvm.Cond.code ({ cls := "java/lang/String", name := "<init>", desc := "([BB)V" } : Jvm.MethodName) jdk_42_method_151_code (3 : Nat) (Option.none : Option Jvm.ClassFile.FieldType)).before a0 Z = true := hw _ (List.mem_of_getElem? (i := 59) rfl)
theorem pd_6 : parseMethodDescriptor "([BB)V" = some ⟨[(.array .byte), .byte], none⟩ := by decide +kernel
theorem wd58 {Z : State} {a0 : Array Value} (hw : ∀ d ∈ tables_1, d.before a0 Z = true) : (Jvm.Cond.instanceMethod ({ cls := "java/lang/String", name := "<init>", desc := "([BB)V" } : Jvm.MethodName)).before a0 Z = true := hw _ (List.mem_of_getElem? (i := 58) rfl)
theorem d_jdk_42_method_139_25 : decode jdk_42_method_139_code 25 = .ok (.areturn, 1) := by decide +kernel
set_option maxRecDepth 65536 in
set_option maxHeartbeats 40000000 in
theorem s_vo {Z : State} {a0 : Array Value} (hw : ∀ d ∈ tables_1, d.before a0 Z = true) (c : Int32) (h0 : Heap) (n0 : Nat) (Z0 : n0 ≤ h0.size) (hc : 0 ≤ c.toInt ∧ c.toInt ≤ 255) (cs : Int32) (S_CS : Sta Z h0 "java/lang/String" "COMPACT_STRINGS" "Z" (.int cs)) (hcs : ¬ cs = 0) : ∀ l, Does l Z (⟨"java/lang/String", "valueOf", "(C)Ljava/lang/String;"⟩ : MethodName) jdk_42_method_139_code 1 (some (.object "java/lang/String")) ({ frames := 2, cells := 2, slots := 5, locals := 27 } : Room) n0 #[(.int c)] h0 (fun v h => ∃ s b : Addr, v = some (.ref s) ∧ Keep h0 h [] ∧ Exa Z h s "java/lang/String" ∧ Fld Z h s "java/lang/String" "value" "[B" (.ref b) ∧ Fld Z h s "java/lang/String" "coder" "B" (.int 0) ∧ Ari Z h b .byte 1 (fun _ => cv c)) := by
  intro l
  refine Does.of_wp (plainFor_of_name pn_1) (Ls := #[.val (.int c)]) (fun m => by first | (simp [entryFrame, mkF, argsToLocals, Value.category]; done) | rfl | (rcases ref_cases hfv with rfl | ⟨_, rfl⟩ <;> rfl)) ?_
  intro C
  have K0 := Keep.refl h0 []
  refine WP.getS (pc' := 3) d_jdk_42_method_139_0 rfl (host := "") (Or.inl (wd35 hw)) Via.refl (S_CS) ?_
  have hc3 : ¬ cs = (0 : Int32) := hcs
  refine WP.ifc_eq (pc1 := 26) (pc2 := 6) d_jdk_42_method_139_3 (by decide) (by decide) rfl (fun k => absurd k hc3) (fun _ => ?_)
  refine WP.iloadN (pc' := 7) d_jdk_42_method_139_6 rfl rfl ?_
  refine WP.callS (argsL := [(.int c)]) (rest := []) (wd := 0) (cl' := 0) (sl' := 0) (pc' := 10) d_jdk_42_method_139_7 rfl (wd49 hw) (wd50 hw) (wd51 hw) (wd52 hw) (by decide) (s_ce hw c h0 n0 hc) pd_4 rfl rfl rfl (Nat.le_of_eq rfl) (by decide) (by decide) rfl rfl (by decide) (by decide) ?_
  rintro v hh1 ⟨rfl, he1⟩
  rw [he1]
  refine WP.castS (st' := [(.int (1 : Int32))]) rfl ?_
  have hc10 : ¬ (1 : Int32) = (0 : Int32) := by decide
  refine WP.ifc_eq (pc1 := 26) (pc2 := 13) d_jdk_42_method_139_10 (by decide) (by decide) rfl (fun k => absurd k hc10) (fun _ => ?_)
  refine WP.newO (cl' := 1) (sl' := 4) (pc' := 16) d_jdk_42_method_139_13 rfl (wd53 hw) (wd11 hw) (wd12 hw) rfl rfl (by decide) (by decide) ?_
  intro h2 b2 g2 E2 A2 D2
  have ge3 : n0 ≤ b2 := by rw [g2]; exact Z0
  have sz4 : h0.size ≤ b2 := by rw [g2]; exact K0.1
  have K5 := K0.ext E2
  have Z6 : n0 ≤ h2.size := Nat.le_trans Z0 E2.1
  have F7 : Fld Z h2 b2 "java/lang/String" "value" "[B" .null := D2 (Or.inr (wd26 hw)) (ty := (.array .byte)) (by decide)
  have F8 : Fld Z h2 b2 "java/lang/String" "coder" "B" (.int (0 : Int32)) := D2 (Or.inr (wd27 hw)) (ty := .byte) (by decide)
  refine WP.dup (pc' := 17) d_jdk_42_method_139_16 rfl rfl ?_
  refine WP.iloadN (pc' := 18) d_jdk_42_method_139_17 rfl rfl ?_
  refine WP.callS (argsL := [(.int c)]) (rest := [(.ref b2), (.ref b2)]) (wd := 2) (cl' := 2) (sl' := 5) (pc' := 21) d_jdk_42_method_139_18 rfl (wd54 hw) (wd55 hw) (wd51 hw) (wd56 hw) (by decide) (s_tb hw c h2 n0 Z6) pd_5 rfl rfl rfl (Nat.le_of_eq rfl) (by decide) (by decide) rfl rfl (by decide) (by decide) ?_
  rintro v h9 ⟨c9, rfl, K9, ge9, sz9, B9⟩
  have ne10 : b2 ≠ c9 := Nat.ne_of_lt (Nat.lt_of_lt_of_le A2.lt sz9)
  have sy11 : h0.size ≤ c9 := Nat.le_trans K5.1 sz9
  have E12 := A2.keep K9
  have F13 := F7.keep K9 nin0
  have F14 := F8.keep K9 nin0
  have K15 := K5.trans K9 all0
  have Z16 : n0 ≤ h9.size := Nat.le_trans Z6 K9.1
  refine WP.castS (st' := [(.ref c9), (.ref b2), (.ref b2)]) rfl ?_
  refine WP.iconst (pc' := 22) d_jdk_42_method_139_21 rfl (z := 0) rfl ?_
  refine WP.callI (a := b2) (argsL := [(.ref c9), (.int (0 : Int32))]) (rest := [(.ref b2)]) (wd := 1) (cl' := 2) (sl' := 5) (pc' := 25) d_jdk_42_method_139_22 rfl rfl (wd57 hw) (wd58 hw) (wd12 hw) (wd59 hw) (by decide) (s_sib hw b2 c9 h9 n0 ge3 E12 F13 F14) pd_6 rfl rfl rfl (Nat.le_of_eq rfl) (by decide) (by decide) rfl rfl (by decide) (by decide) ?_
  rintro v h17 ⟨rfl, K17, E17, Fv17, Fc17⟩
  have E18 := E12.keep K17
  have V19 := B9.keep K17 (ninS (Ne.symm ne10) nin0)
  have K20 := K15.trans K17 (allS (Or.inr sz4) all0)
  have Z21 : n0 ≤ h17.size := Nat.le_trans Z16 K17.1
  refine WP.castS (st' := [(.ref b2)]) rfl ?_
  refine WP.aret d_jdk_42_method_139_25 rfl rfl rfl (by decide) (by decide) ⟨_, _, rfl, K20, E17, Fv17, Fc17, V19⟩
/-- a byte as a char -/
def chv (b : Int32) : Int32 := b &&& 255
theorem chv_i2c (b : Int32) : (b &&& 255).toUInt32.toUInt16.toUInt32.toInt32 = chv b := by
  have h1 := c_mask b 255 8 (by decide) (by decide)
  have h2 := c_i2c (b &&& 255)
  apply Int32.toInt_inj.mp
  show _ = (b &&& 255).toInt
  omega
theorem nar_chv (b : Int32) : nar .char (chv b) = chv b := by rw [← chv_i2c b]; exact nar_char _
theorem shr0 (x : Int32) : x >>> ((0 : Int32) &&& 31) = x := by
  rw [show ((0 : Int32) &&& 31) = 0 from by decide]; apply Int32.toBitVec_inj.mp; simp
theorem d_jdk_41_method_11_0 : decode jdk_41_method_11_code 0 = .ok (.iload_n 0, 1) := by decide +kernel
theorem d_jdk_41_method_11_1 : decode jdk_41_method_11_code 1 = .ok (.ifCond .lt 8, 3) := by decide +kernel
theorem d_jdk_41_method_11_4 : decode jdk_41_method_11_code 4 = .ok (.iload_n 0, 1) := by decide +kernel
theorem d_jdk_41_method_11_5 : decode jdk_41_method_11_code 5 = .ok (.iload_n 1, 1) := by decide +kernel
theorem d_jdk_41_method_11_6 : decode jdk_41_method_11_code 6 = .ok (.if_icmp .lt 10, 3) := by decide +kernel
theorem d_jdk_41_method_11_16 : decode jdk_41_method_11_code 16 = .ok (.iload_n 0, 1) := by decide +kernel
theorem d_jdk_41_method_11_17 : decode jdk_41_method_11_code 17 = .ok (.ireturn, 1) := by decide +kernel
theorem pn_3 : plainName "jdk/internal/util/Preconditions" = true := by first | (simp [plainName, overriddenIn]; done) | decide +kernel
set_option maxRecDepth 65536 in
set_option maxHeartbeats 40000000 in
theorem s_pck {Z : State} {a0 : Array Value} (hw : ∀ d ∈ tables_1, d.before a0 Z = true) (i : Int32) (n : Int32) (h0 : Heap) (n0 : Nat) (fv : Value) (hfv : fv.isRef = true) (h1 : 0 ≤ i.toInt) (h2 : i.toInt < n.toInt) : ∀ l, Does l Z (⟨"jdk/internal/util/Preconditions", "checkIndex", "(IILjava/util/function/BiFunction;)I"⟩ : MethodName) jdk_41_method_11_code 3 (some .int) ({ frames := 0, cells := 0, slots := 0, locals := 0 } : Room) n0 #[(.int i), (.int n), fv] h0 (fun v h => v = some (.int i) ∧ h = h0) := by
  intro l
  refine Does.of_wp (plainFor_of_name pn_3) (Ls := #[.val (.int i), .val (.int n), .val fv]) (fun m => by first | (simp [entryFrame, mkF, argsToLocals, Value.category]; done) | rfl | (rcases ref_cases hfv with rfl | ⟨_, rfl⟩ <;> rfl)) ?_
  intro C
  refine WP.iloadN (pc' := 1) d_jdk_41_method_11_0 rfl rfl ?_
  have hc1 : ¬ i < (0 : Int32) := by rw [Int32.lt_iff_toInt_lt]; have e : (0 : Int32).toInt = 0 := rfl; omega
  refine WP.ifc_lt (pc1 := 9) (pc2 := 4) d_jdk_41_method_11_1 (by decide) (by decide) rfl (fun k => absurd k hc1) (fun _ => ?_)
  refine WP.iloadN (pc' := 5) d_jdk_41_method_11_4 rfl rfl ?_
  refine WP.iloadN (pc' := 6) d_jdk_41_method_11_5 rfl rfl ?_
  have hc6 : i < n := by rw [Int32.lt_iff_toInt_lt]; omega
  refine WP.icmp_lt (pc1 := 16) (pc2 := 9) d_jdk_41_method_11_6 (by decide) (by decide) rfl (fun _ => ?_) (fun k => absurd hc6 k)
  refine WP.iloadN (pc' := 17) d_jdk_41_method_11_16 rfl rfl ?_
  refine WP.iret d_jdk_41_method_11_17 rfl (by decide) (by decide) ⟨rfl, rfl⟩
theorem d_jdk_42_method_155_0 : decode jdk_42_method_155_code 0 = .ok (.iload_n 0, 1) := by decide +kernel
theorem d_jdk_42_method_155_1 : decode jdk_42_method_155_code 1 = .ok (.iload_n 1, 1) := by decide +kernel
theorem d_jdk_42_method_155_2 : decode jdk_42_method_155_code 2 = .ok (.getstatic 1053, 3) := by decide +kernel
theorem wd126 {Z : State} {a0 : Array Value} (hw : ∀ d ∈ tables_1, d.before a0 Z = true) : (Jvm.Cond.fieldLink "java/lang/String" (1053 : Nat) "jdk/internal/util/Preconditions" "SIOOBE_FORMATTER" "Ljava/util/function/BiFunction;").before a0 Z = true := hw _ (List.mem_of_getElem? (i := 126) rfl)
theorem d_jdk_42_method_155_5 : decode jdk_42_method_155_code 5 = .ok (.invokestatic 1059, 3) := by decide +kernel
theorem wd128 {Z : State} {a0 : Array Value} (hw : ∀ d ∈ tables_1, d.before a0 Z = true) : (Jvm.Cond.methodLink "java/lang/String" (1059 : Nat) ({ cls := "jdk/internal/util/Preconditions", name := "checkIndex", desc := "(IILjava/util/function/BiFunction;)I" } : Jvm.MethodName)).before a0 Z = true := hw _ (List.mem_of_getElem? (i := 128) rfl)
theorem wd130 {Z : State} {a0 : Array Value} (hw : ∀ d ∈ tables_1, d.before a0 Z = true) : (Jvm.Cond.code ({ cls := "jdk/internal/util/Preconditions", name := "checkIndex", desc := "(IILjava/util/function/BiFunction;)I" } : Jvm.MethodName) jdk_41_method_11_code (3 : Nat) (Option.some Jvm.ClassFile.FieldType.int)).before a0 Z = true := hw _ (List.mem_of_getElem? (i := 130) rfl)
theorem wd127 {Z : State} {a0 : Array Value} (hw : ∀ d ∈ tables_1, d.before a0 Z = true) : (Jvm.Cond.initialized "jdk/internal/util/Preconditions").before a0 Z = true := hw _ (List.mem_of_getElem? (i := 127) rfl)
theorem pd_7 : parseMethodDescriptor "(IILjava/util/function/BiFunction;)I" = some ⟨[.int, .int, (.object "java/util/function/BiFunction")], some .int⟩ := by decide +kernel
theorem wd129 {Z : State} {a0 : Array Value} (hw : ∀ d ∈ tables_1, d.before a0 Z = true) : (Jvm.Cond.static ({ cls := "jdk/internal/util/Preconditions", name := "checkIndex", desc := "(IILjava/util/function/BiFunction;)I" } : Jvm.MethodName)).before a0 Z = true := hw _ (List.mem_of_getElem? (i := 129) rfl)
theorem d_jdk_42_method_155_8 : decode jdk_42_method_155_code 8 = .ok (.pop, 1) := by decide +kernel
theorem d_jdk_42_method_155_9 : decode jdk_42_method_155_code 9 = .ok (.return_, 1) := by decide +kernel
set_option maxRecDepth 65536 in
set_option maxHeartbeats 40000000 in
theorem s_cki {Z : State} {a0 : Array Value} (hw : ∀ d ∈ tables_1, d.before a0 Z = true) (i : Int32) (n : Int32) (h0 : Heap) (n0 : Nat) (fv : Value) (hfv : fv.isRef = true) (S_FM : Sta Z h0 "jdk/internal/util/Preconditions" "SIOOBE_FORMATTER" "Ljava/util/function/BiFunction;" fv) (h1 : 0 ≤ i.toInt) (h2 : i.toInt < n.toInt) : ∀ l, Does l Z (⟨"java/lang/String", "checkIndex", "(II)V"⟩ : MethodName) jdk_42_method_155_code 2 none ({ frames := 1, cells := 0, slots := 0, locals := 14 } : Room) n0 #[(.int i), (.int n)] h0 (fun v h => v = none ∧ h = h0) := by
  intro l
  refine Does.of_wp (plainFor_of_name pn_1) (Ls := #[.val (.int i), .val (.int n)]) (fun m => by first | (simp [entryFrame, mkF, argsToLocals, Value.category]; done) | rfl | (rcases ref_cases hfv with rfl | ⟨_, rfl⟩ <;> rfl)) ?_
  intro C
  refine WP.iloadN (pc' := 1) d_jdk_42_method_155_0 rfl rfl ?_
  refine WP.iloadN (pc' := 2) d_jdk_42_method_155_1 rfl rfl ?_
  refine WP.getS (pc' := 5) d_jdk_42_method_155_2 rfl (host := "") (Or.inl (wd126 hw)) Via.refl (S_FM) ?_
  refine WP.callS (argsL := [(.int i), (.int n), fv]) (rest := []) (wd := 0) (cl' := 0) (sl' := 0) (pc' := 8) d_jdk_42_method_155_5 rfl (wd128 hw) (wd129 hw) (wd127 hw) (wd130 hw) (by decide) (s_pck hw i n h0 n0 fv hfv h1 h2) pd_7 rfl rfl rfl (Nat.le_of_eq rfl) (by decide) (by decide) rfl rfl (by decide) (by decide) ?_
  rintro v hh1 ⟨rfl, he1⟩
  rw [he1]
  refine WP.castS (st' := [(.int i)]) rfl ?_
  refine WP.pop (pc' := 9) d_jdk_42_method_155_8 rfl rfl ?_
  exact WP.vret d_jdk_42_method_155_9 rfl (by decide) (by decide) ⟨rfl, rfl⟩
theorem d_jdk_43_method_2_0 : decode jdk_43_method_2_code 0 = .ok (.iload_n 1, 1) := by decide +kernel
theorem d_jdk_43_method_2_1 : decode jdk_43_method_2_code 1 = .ok (.aload_n 0, 1) := by decide +kernel
theorem d_jdk_43_method_2_2 : decode jdk_43_method_2_code 2 = .ok (.arraylength, 1) := by decide +kernel
theorem d_jdk_43_method_2_3 : decode jdk_43_method_2_code 3 = .ok (.invokestatic 9, 3) := by decide +kernel
theorem wd123 {Z : State} {a0 : Array Value} (hw : ∀ d ∈ tables_1, d.before a0 Z = true) : (Jvm.Cond.methodLink "java/lang/StringLatin1" (9 : Nat) ({ cls := "java/lang/String", name := "checkIndex", desc := "(II)V" } : Jvm.MethodName)).before a0 Z = true := hw _ (List.mem_of_getElem? (i := 123) rfl)
theorem wd125 {Z : State} {a0 : Array Value} (hw : ∀ d ∈ tables_1, d.before a0 Z = true) : (Jvm.Cond.code ({ cls := "java/lang/String", name := "checkIndex", desc := "(II)V" } : Jvm.MethodName) jdk_42_method_155_code (2 : Nat) (Option.none : Option Jvm.ClassFile.FieldType)).before a0 Z = true := hw _ (List.mem_of_getElem? (i := 125) rfl)
theorem pd_8 : parseMethodDescriptor "(II)V" = some ⟨[.int, .int], none⟩ := by decide +kernel
theorem wd124 {Z : State} {a0 : Array Value} (hw : ∀ d ∈ tables_1, d.before a0 Z = true) : (Jvm.Cond.static ({ cls := "java/lang/String", name := "checkIndex", desc := "(II)V" } : Jvm.MethodName)).before a0 Z = true := hw _ (List.mem_of_getElem? (i := 124) rfl)
theorem d_jdk_43_method_2_6 : decode jdk_43_method_2_code 6 = .ok (.aload_n 0, 1) := by decide +kernel
theorem d_jdk_43_method_2_7 : decode jdk_43_method_2_code 7 = .ok (.iload_n 1, 1) := by decide +kernel
theorem d_jdk_43_method_2_8 : decode jdk_43_method_2_code 8 = .ok (.baload, 1) := by decide +kernel
theorem d_jdk_43_method_2_9 : decode jdk_43_method_2_code 9 = .ok (.sipush 255, 3) := by decide +kernel
theorem d_jdk_43_method_2_12 : decode jdk_43_method_2_code 12 = .ok (.iand, 1) := by decide +kernel
theorem d_jdk_43_method_2_13 : decode jdk_43_method_2_code 13 = .ok (.i2c, 1) := by decide +kernel
theorem d_jdk_43_method_2_14 : decode jdk_43_method_2_code 14 = .ok (.ireturn, 1) := by decide +kernel
set_option maxRecDepth 65536 in
set_option maxHeartbeats 40000000 in
theorem s_lch {Z : State} {a0 : Array Value} (hw : ∀ d ∈ tables_1, d.before a0 Z = true) (b : Addr) (i : Int32) (h0 : Heap) (n0 : Nat) (fv : Value) (hfv : fv.isRef = true) (S_FM : Sta Z h0 "jdk/internal/util/Preconditions" "SIOOBE_FORMATTER" "Ljava/util/function/BiFunction;" fv) (n I : Nat) (g : Nat → Int32) (A0 : Ari Z h0 b .byte n g) (hi : i.toInt = (I : Int)) (hl : I < n) (hn : n ≤ 10000) : ∀ l, Does l Z (⟨"java/lang/StringLatin1", "charAt", "([BI)C"⟩ : MethodName) jdk_43_method_2_code 2 (some .char) ({ frames := 2, cells := 0, slots := 0, locals := 27 } : Room) n0 #[(.ref b), (.int i)] h0 (fun v h => v = some (.int (chv (g I))) ∧ h = h0) := by
  intro l
  refine Does.of_wp (plainFor_of_name pn_2) (Ls := #[.val (.ref b), .val (.int i)]) (fun m => by first | (simp [entryFrame, mkF, argsToLocals, Value.category]; done) | rfl | (rcases ref_cases hfv with rfl | ⟨_, rfl⟩ <;> rfl)) ?_
  intro C
  refine WP.iloadN (pc' := 1) d_jdk_43_method_2_0 rfl rfl ?_
  refine WP.aloadN (pc' := 2) d_jdk_43_method_2_1 rfl rfl rfl ?_
  refine WP.arraylengthI (z := (n : Nat).toInt32) (pc' := 3) d_jdk_43_method_2_2 rfl A0 rfl ?_
  refine WP.callS (argsL := [(.int i), (.int (n : Nat).toInt32)]) (rest := []) (wd := 0) (cl' := 0) (sl' := 0) (pc' := 6) d_jdk_43_method_2_3 rfl (wd123 hw) (wd124 hw) (wd12 hw) (wd125 hw) (by decide) (s_cki hw i (n : Nat).toInt32 h0 n0 fv hfv S_FM (by omega) (by rw [natI (by omega)]; omega)) pd_8 rfl rfl rfl (Nat.le_of_eq rfl) (by decide) (by decide) rfl rfl (by decide) (by decide) ?_
  rintro v hh1 ⟨rfl, he1⟩
  rw [he1]
  refine WP.castS (st' := []) rfl ?_
  refine WP.aloadN (pc' := 7) d_jdk_43_method_2_6 rfl rfl rfl ?_
  refine WP.iloadN (pc' := 8) d_jdk_43_method_2_7 rfl rfl ?_
  refine WP.baloadI (I) (pc' := 9) d_jdk_43_method_2_8 rfl A0 hi hl rfl ?_
  refine WP.sipush (pc' := 12) d_jdk_43_method_2_9 rfl (z := 255) rfl ?_
  refine WP.iand (pc' := 13) d_jdk_43_method_2_12 rfl ?_
  refine WP.i2c (pc' := 14) d_jdk_43_method_2_13 rfl ?_
  refine WP.nret (t := .char) d_jdk_43_method_2_14 rfl (by simp) (by rw [chv_i2c]; exact nar_chv _) (by decide) (by decide) ⟨rfl, rfl⟩
theorem d_jdk_42_method_154_0 : decode jdk_42_method_154_code 0 = .ok (.getstatic 38, 3) := by decide +kernel
theorem d_jdk_42_method_154_3 : decode jdk_42_method_154_code 3 = .ok (.ifCond .eq 14, 3) := by decide +kernel
theorem d_jdk_42_method_154_6 : decode jdk_42_method_154_code 6 = .ok (.aload_n 0, 1) := by decide +kernel
theorem d_jdk_42_method_154_7 : decode jdk_42_method_154_code 7 = .ok (.getfield 15, 3) := by decide +kernel
theorem d_jdk_42_method_154_10 : decode jdk_42_method_154_code 10 = .ok (.ifCond .ne 7, 3) := by decide +kernel
theorem d_jdk_42_method_154_13 : decode jdk_42_method_154_code 13 = .ok (.iconst 1, 1) := by decide +kernel
theorem d_jdk_42_method_154_14 : decode jdk_42_method_154_code 14 = .ok (.goto 4, 3) := by decide +kernel
theorem d_jdk_42_method_154_18 : decode jdk_42_method_154_code 18 = .ok (.ireturn, 1) := by decide +kernel
set_option maxRecDepth 65536 in
set_option maxHeartbeats 40000000 in
theorem s_isl {Z : State} {a0 : Array Value} (hw : ∀ d ∈ tables_1, d.before a0 Z = true) (a : Addr) (h0 : Heap) (n0 : Nat) (E0 : Exa Z h0 a "java/lang/String") (F_c : Fld Z h0 a "java/lang/String" "coder" "B" (.int 0)) (cs : Int32) (S_CS : Sta Z h0 "java/lang/String" "COMPACT_STRINGS" "Z" (.int cs)) (hcs : ¬ cs = 0) : ∀ l, Does l Z (⟨"java/lang/String", "isLatin1", "()Z"⟩ : MethodName) jdk_42_method_154_code 1 (some .boolean) ({ frames := 0, cells := 0, slots := 0, locals := 0 } : Room) n0 #[(.ref a)] h0 (fun v h => v = some (.int 1) ∧ h = h0) := by
  intro l
  refine Does.of_wp (plainFor_of_name pn_1) (Ls := #[.val (.ref a)]) (fun m => by first | (simp [entryFrame, mkF, argsToLocals, Value.category]; done) | rfl | (rcases ref_cases hfv with rfl | ⟨_, rfl⟩ <;> rfl)) ?_
  intro C
  refine WP.getS (pc' := 3) d_jdk_42_method_154_0 rfl (host := "") (Or.inl (wd35 hw)) Via.refl (S_CS) ?_
  have hc3 : ¬ cs = (0 : Int32) := hcs
  refine WP.ifc_eq (pc1 := 17) (pc2 := 6) d_jdk_42_method_154_3 (by decide) (by decide) rfl (fun k => absurd k hc3) (fun _ => ?_)
  refine WP.aloadN (pc' := 7) d_jdk_42_method_154_6 rfl rfl rfl ?_
  refine WP.getF (pc' := 10) d_jdk_42_method_154_7 rfl (host := "") (Or.inl (wd31 hw)) Via.refl F_c ?_
  have hc10 : (0 : Int32) = (0 : Int32) := by decide
  refine WP.ifc_ne (pc1 := 17) (pc2 := 13) d_jdk_42_method_154_10 (by decide) (by decide) rfl (fun k => absurd hc10 k) (fun _ => ?_)
  refine WP.iconst (pc' := 14) d_jdk_42_method_154_13 rfl (z := 1) rfl ?_
  refine WP.goto (pc' := 18) d_jdk_42_method_154_14 (by decide) (by decide) ?_
  refine WP.nret (t := .boolean) d_jdk_42_method_154_18 rfl (by simp) rfl (by decide) (by decide) ⟨rfl, rfl⟩
theorem d_jdk_42_method_152_0 : decode jdk_42_method_152_code 0 = .ok (.getstatic 38, 3) := by decide +kernel
theorem d_jdk_42_method_152_3 : decode jdk_42_method_152_code 3 = .ok (.ifCond .eq 10, 3) := by decide +kernel
theorem d_jdk_42_method_152_6 : decode jdk_42_method_152_code 6 = .ok (.aload_n 0, 1) := by decide +kernel
theorem d_jdk_42_method_152_7 : decode jdk_42_method_152_code 7 = .ok (.getfield 15, 3) := by decide +kernel
theorem d_jdk_42_method_152_10 : decode jdk_42_method_152_code 10 = .ok (.goto 4, 3) := by decide +kernel
theorem d_jdk_42_method_152_14 : decode jdk_42_method_152_code 14 = .ok (.ireturn, 1) := by decide +kernel
set_option maxRecDepth 65536 in
set_option maxHeartbeats 40000000 in
theorem s_cod {Z : State} {a0 : Array Value} (hw : ∀ d ∈ tables_1, d.before a0 Z = true) (a : Addr) (h0 : Heap) (n0 : Nat) (E0 : Exa Z h0 a "java/lang/String") (F_c : Fld Z h0 a "java/lang/String" "coder" "B" (.int 0)) (cs : Int32) (S_CS : Sta Z h0 "java/lang/String" "COMPACT_STRINGS" "Z" (.int cs)) (hcs : ¬ cs = 0) : ∀ l, Does l Z (⟨"java/lang/String", "coder", "()B"⟩ : MethodName) jdk_42_method_152_code 1 (some .byte) ({ frames := 0, cells := 0, slots := 0, locals := 0 } : Room) n0 #[(.ref a)] h0 (fun v h => v = some (.int 0) ∧ h = h0) := by
  intro l
  refine Does.of_wp (plainFor_of_name pn_1) (Ls := #[.val (.ref a)]) (fun m => by first | (simp [entryFrame, mkF, argsToLocals, Value.category]; done) | rfl | (rcases ref_cases hfv with rfl | ⟨_, rfl⟩ <;> rfl)) ?_
  intro C
  refine WP.getS (pc' := 3) d_jdk_42_method_152_0 rfl (host := "") (Or.inl (wd35 hw)) Via.refl (S_CS) ?_
  have hc3 : ¬ cs = (0 : Int32) := hcs
  refine WP.ifc_eq (pc1 := 13) (pc2 := 6) d_jdk_42_method_152_3 (by decide) (by decide) rfl (fun k => absurd k hc3) (fun _ => ?_)
  refine WP.aloadN (pc' := 7) d_jdk_42_method_152_6 rfl rfl rfl ?_
  refine WP.getF (pc' := 10) d_jdk_42_method_152_7 rfl (host := "") (Or.inl (wd31 hw)) Via.refl F_c ?_
  refine WP.goto (pc' := 14) d_jdk_42_method_152_10 (by decide) (by decide) ?_
  refine WP.nret (t := .byte) d_jdk_42_method_152_14 rfl (by simp) rfl (by decide) (by decide) ⟨rfl, rfl⟩
theorem d_jdk_42_method_54_0 : decode jdk_42_method_54_code 0 = .ok (.aload_n 0, 1) := by decide +kernel
theorem d_jdk_42_method_54_1 : decode jdk_42_method_54_code 1 = .ok (.getfield 9, 3) := by decide +kernel
theorem d_jdk_42_method_54_4 : decode jdk_42_method_54_code 4 = .ok (.arraylength, 1) := by decide +kernel
theorem d_jdk_42_method_54_5 : decode jdk_42_method_54_code 5 = .ok (.aload_n 0, 1) := by decide +kernel
theorem d_jdk_42_method_54_6 : decode jdk_42_method_54_code 6 = .ok (.invokevirtual 335, 3) := by decide +kernel
theorem wd101 {Z : State} {a0 : Array Value} (hw : ∀ d ∈ tables_1, d.before a0 Z = true) : (Jvm.Cond.methodLink "java/lang/String" (335 : Nat) ({ cls := "java/lang/String", name := "coder", desc := "()B" } : Jvm.MethodName)).before a0 Z = true := hw _ (List.mem_of_getElem? (i := 101) rfl)
theorem wd105 {Z : State} {a0 : Array Value} (hw : ∀ d ∈ tables_1, d.before a0 Z = true) : (Jvm.Cond.code ({ cls := "java/lang/String", name := "coder", desc := "()B" } : Jvm.MethodName) jdk_42_method_152_code (1 : Nat) (Option.some Jvm.ClassFile.FieldType.byte)).before a0 Z = true := hw _ (List.mem_of_getElem? (i := 105) rfl)
theorem pd_9 : parseMethodDescriptor "()B" = some ⟨[], some .byte⟩ := by decide +kernel
theorem wd104 {Z : State} {a0 : Array Value} (hw : ∀ d ∈ tables_1, d.before a0 Z = true) : (Jvm.Cond.selects "java/lang/String" ({ cls := "java/lang/String", name := "coder", desc := "()B" } : Jvm.MethodName) ({ cls := "java/lang/String", name := "coder", desc := "()B" } : Jvm.MethodName)).before a0 Z = true := hw _ (List.mem_of_getElem? (i := 104) rfl)
theorem wd102 {Z : State} {a0 : Array Value} (hw : ∀ d ∈ tables_1, d.before a0 Z = true) : (Jvm.Cond.declares ({ cls := "java/lang/String", name := "coder", desc := "()B" } : Jvm.MethodName)).before a0 Z = true := hw _ (List.mem_of_getElem? (i := 102) rfl)
theorem wd103 {Z : State} {a0 : Array Value} (hw : ∀ d ∈ tables_1, d.before a0 Z = true) : (Jvm.Cond.instanceMethod ({ cls := "java/lang/String", name := "coder", desc := "()B" } : Jvm.MethodName)).before a0 Z = true := hw _ (List.mem_of_getElem? (i := 103) rfl)
theorem d_jdk_42_method_54_9 : decode jdk_42_method_54_code 9 = .ok (.ishr, 1) := by decide +kernel
theorem d_jdk_42_method_54_10 : decode jdk_42_method_54_code 10 = .ok (.ireturn, 1) := by decide +kernel
set_option maxRecDepth 65536 in
set_option maxHeartbeats 40000000 in
theorem s_len {Z : State} {a0 : Array Value} (hw : ∀ d ∈ tables_1, d.before a0 Z = true) (a : Addr) (h0 : Heap) (n0 : Nat) (E0 : Exa Z h0 a "java/lang/String") (F_c : Fld Z h0 a "java/lang/String" "coder" "B" (.int 0)) (cs : Int32) (S_CS : Sta Z h0 "java/lang/String" "COMPACT_STRINGS" "Z" (.int cs)) (hcs : ¬ cs = 0) (b : Addr) (F_v : Fld Z h0 a "java/lang/String" "value" "[B" (.ref b)) (n : Nat) (g : Nat → Int32) (A0 : Ari Z h0 b .byte n g) (hn : n ≤ 10000) : ∀ l, Does l Z (⟨"java/lang/String", "length", "()I"⟩ : MethodName) jdk_42_method_54_code 1 (some .int) ({ frames := 1, cells := 0, slots := 0, locals := 13 } : Room) n0 #[(.ref a)] h0 (fun v h => v = some (.int (n : Nat).toInt32) ∧ h = h0) := by
  intro l
  refine Does.of_wp (plainFor_of_name pn_1) (Ls := #[.val (.ref a)]) (fun m => by first | (simp [entryFrame, mkF, argsToLocals, Value.category]; done) | rfl | (rcases ref_cases hfv with rfl | ⟨_, rfl⟩ <;> rfl)) ?_
  intro C
  refine WP.aloadN (pc' := 1) d_jdk_42_method_54_0 rfl rfl rfl ?_
  refine WP.getF (pc' := 4) d_jdk_42_method_54_1 rfl (host := "") (Or.inl (wd30 hw)) Via.refl F_v ?_
  refine WP.arraylengthI (z := (n : Nat).toInt32) (pc' := 5) d_jdk_42_method_54_4 rfl A0 rfl ?_
  refine WP.aloadN (pc' := 6) d_jdk_42_method_54_5 rfl rfl rfl ?_
  refine WP.callV (a := a) (K := "java/lang/String") (argsL := []) (rest := [(.int (n : Nat).toInt32)]) (wd := 1) (cl' := 0) (sl' := 0) (pc' := 9) d_jdk_42_method_54_6 rfl (wd101 hw) (wd102 hw) (nfS (wd104 hw) rfl) (wd104 hw) (wd103 hw) (wd12 hw) (wd105 hw) (by decide) E0 (s_cod hw a h0 n0 E0 F_c cs S_CS hcs) pd_9 rfl rfl rfl (Nat.le_of_eq rfl) (by decide) (by decide) rfl rfl (by decide) (by decide) ?_
  rintro v hh1 ⟨rfl, he1⟩
  rw [he1]
  refine WP.castS (st' := [(.int (0 : Int32)), (.int (n : Nat).toInt32)]) rfl ?_
  refine WP.ishr (pc' := 10) d_jdk_42_method_54_9 rfl ?_
  refine WP.iret d_jdk_42_method_54_10 rfl (by decide) (by decide) ⟨by rw [shr0], rfl⟩
theorem d_jdk_42_method_56_0 : decode jdk_42_method_56_code 0 = .ok (.aload_n 0, 1) := by decide +kernel
theorem d_jdk_42_method_56_1 : decode jdk_42_method_56_code 1 = .ok (.invokevirtual 492, 3) := by decide +kernel
theorem wd115 {Z : State} {a0 : Array Value} (hw : ∀ d ∈ tables_1, d.before a0 Z = true) : (Jvm.Cond.methodLink "java/lang/String" (492 : Nat) ({ cls := "java/lang/String", name := "isLatin1", desc := "()Z" } : Jvm.MethodName)).before a0 Z = true := hw _ (List.mem_of_getElem? (i := 115) rfl)
theorem wd119 {Z : State} {a0 : Array Value} (hw : ∀ d ∈ tables_1, d.before a0 Z = true) : (Jvm.Cond.code ({ cls := "java/lang/String", name := "isLatin1", desc := "()Z" } : Jvm.MethodName) jdk_42_method_154_code (1 : Nat) (Option.some Jvm.ClassFile.FieldType.boolean)).before a0 Z = true := hw _ (List.mem_of_getElem? (i := 119) rfl)
theorem pd_10 : parseMethodDescriptor "()Z" = some ⟨[], some .boolean⟩ := by decide +kernel
theorem wd118 {Z : State} {a0 : Array Value} (hw : ∀ d ∈ tables_1, d.before a0 Z = true) : (Jvm.Cond.selects "java/lang/String" ({ cls := "java/lang/String", name := "isLatin1", desc := "()Z" } : Jvm.MethodName) ({ cls := "java/lang/String", name := "isLatin1", desc := "()Z" } : Jvm.MethodName)).before a0 Z = true := hw _ (List.mem_of_getElem? (i := 118) rfl)
theorem wd116 {Z : State} {a0 : Array Value} (hw : ∀ d ∈ tables_1, d.before a0 Z = true) : (Jvm.Cond.declares ({ cls := "java/lang/String", name := "isLatin1", desc := "()Z" } : Jvm.MethodName)).before a0 Z = true := hw _ (List.mem_of_getElem? (i := 116) rfl)
theorem wd117 {Z : State} {a0 : Array Value} (hw : ∀ d ∈ tables_1, d.before a0 Z = true) : (Jvm.Cond.instanceMethod ({ cls := "java/lang/String", name := "isLatin1", desc := "()Z" } : Jvm.MethodName)).before a0 Z = true := hw _ (List.mem_of_getElem? (i := 117) rfl)
theorem d_jdk_42_method_56_4 : decode jdk_42_method_56_code 4 = .ok (.ifCond .eq 12, 3) := by decide +kernel
theorem d_jdk_42_method_56_7 : decode jdk_42_method_56_code 7 = .ok (.aload_n 0, 1) := by decide +kernel
theorem d_jdk_42_method_56_8 : decode jdk_42_method_56_code 8 = .ok (.getfield 9, 3) := by decide +kernel
theorem d_jdk_42_method_56_11 : decode jdk_42_method_56_code 11 = .ok (.iload_n 1, 1) := by decide +kernel
theorem d_jdk_42_method_56_12 : decode jdk_42_method_56_code 12 = .ok (.invokestatic 495, 3) := by decide +kernel
theorem wd120 {Z : State} {a0 : Array Value} (hw : ∀ d ∈ tables_1, d.before a0 Z = true) : (Jvm.Cond.methodLink "java/lang/String" (495 : Nat) ({ cls := "java/lang/StringLatin1", name := "charAt", desc := "([BI)C" } : Jvm.MethodName)).before a0 Z = true := hw _ (List.mem_of_getElem? (i := 120) rfl)
theorem wd122 {Z : State} {a0 : Array Value} (hw : ∀ d ∈ tables_1, d.before a0 Z = true) : (Jvm.Cond.code ({ cls := "java/lang/StringLatin1", name := "charAt", desc := "([BI)C" } : Jvm.MethodName) jdk_43_method_2_code (2 : Nat) (Option.some Jvm.ClassFile.FieldType.char)).before a0 Z = true := hw _ (List.mem_of_getElem? (i := 122) rfl)
theorem pd_11 : parseMethodDescriptor "([BI)C" = some ⟨[(.array .byte), .int], some .char⟩ := by decide +kernel
theorem wd121 {Z : State} {a0 : Array Value} (hw : ∀ d ∈ tables_1, d.before a0 Z = true) : (Jvm.Cond.static ({ cls := "java/lang/StringLatin1", name := "charAt", desc := "([BI)C" } : Jvm.MethodName)).before a0 Z = true := hw _ (List.mem_of_getElem? (i := 121) rfl)
theorem d_jdk_42_method_56_15 : decode jdk_42_method_56_code 15 = .ok (.ireturn, 1) := by decide +kernel
set_option maxRecDepth 65536 in
set_option maxHeartbeats 40000000 in
theorem s_cha {Z : State} {a0 : Array Value} (hw : ∀ d ∈ tables_1, d.before a0 Z = true) (a : Addr) (i : Int32) (h0 : Heap) (n0 : Nat) (E0 : Exa Z h0 a "java/lang/String") (F_c : Fld Z h0 a "java/lang/String" "coder" "B" (.int 0)) (cs : Int32) (S_CS : Sta Z h0 "java/lang/String" "COMPACT_STRINGS" "Z" (.int cs)) (hcs : ¬ cs = 0) (b : Addr) (F_v : Fld Z h0 a "java/lang/String" "value" "[B" (.ref b)) (n : Nat) (g : Nat → Int32) (A0 : Ari Z h0 b .byte n g) (hn : n ≤ 10000) (fv : Value) (hfv : fv.isRef = true) (S_FM : Sta Z h0 "jdk/internal/util/Preconditions" "SIOOBE_FORMATTER" "Ljava/util/function/BiFunction;" fv) (I : Nat) (hi : i.toInt = (I : Int)) (hl : I < n) : ∀ l, Does l Z (⟨"java/lang/String", "charAt", "(I)C"⟩ : MethodName) jdk_42_method_56_code 2 (some .char) ({ frames := 3, cells := 0, slots := 0, locals := 40 } : Room) n0 #[(.ref a), (.int i)] h0 (fun v h => v = some (.int (chv (g I))) ∧ h = h0) := by
  intro l
  refine Does.of_wp (plainFor_of_name pn_1) (Ls := #[.val (.ref a), .val (.int i)]) (fun m => by first | (simp [entryFrame, mkF, argsToLocals, Value.category]; done) | rfl | (rcases ref_cases hfv with rfl | ⟨_, rfl⟩ <;> rfl)) ?_
  intro C
  refine WP.aloadN (pc' := 1) d_jdk_42_method_56_0 rfl rfl rfl ?_
  refine WP.callV (a := a) (K := "java/lang/String") (argsL := []) (rest := []) (wd := 0) (cl' := 0) (sl' := 0) (pc' := 4) d_jdk_42_method_56_1 rfl (wd115 hw) (wd116 hw) (nfS (wd118 hw) rfl) (wd118 hw) (wd117 hw) (wd12 hw) (wd119 hw) (by decide) E0 (s_isl hw a h0 n0 E0 F_c cs S_CS hcs) pd_10 rfl rfl rfl (Nat.le_of_eq rfl) (by decide) (by decide) rfl rfl (by decide) (by decide) ?_
  rintro v hh1 ⟨rfl, he1⟩
  rw [he1]
  refine WP.castS (st' := [(.int (1 : Int32))]) rfl ?_
  have hc4 : ¬ (1 : Int32) = (0 : Int32) := by decide
  refine WP.ifc_eq (pc1 := 16) (pc2 := 7) d_jdk_42_method_56_4 (by decide) (by decide) rfl (fun k => absurd k hc4) (fun _ => ?_)
  refine WP.aloadN (pc' := 8) d_jdk_42_method_56_7 rfl rfl rfl ?_
  refine WP.getF (pc' := 11) d_jdk_42_method_56_8 rfl (host := "") (Or.inl (wd30 hw)) Via.refl F_v ?_
  refine WP.iloadN (pc' := 12) d_jdk_42_method_56_11 rfl rfl ?_
  refine WP.callS (argsL := [(.ref b), (.int i)]) (rest := []) (wd := 0) (cl' := 0) (sl' := 0) (pc' := 15) d_jdk_42_method_56_12 rfl (wd120 hw) (wd121 hw) (wd51 hw) (wd122 hw) (by decide) (s_lch hw b i h0 n0 fv hfv S_FM n I g A0 hi hl hn) pd_11 rfl rfl rfl (Nat.le_of_eq rfl) (by decide) (by decide) rfl rfl (by decide) (by decide) ?_
  rintro v hh2 ⟨rfl, he2⟩
  rw [he2]
  refine WP.castS (st' := [(.int (chv (g I)))]) rfl ?_
  refine WP.nret (t := .char) d_jdk_42_method_56_15 rfl (by simp) (nar_chv _) (by decide) (by decide) ⟨rfl, rfl⟩
def lett (x : Int32) : Int32 := if x &&& 3 = 0 then 97 else if x &&& 3 = 1 then 65 else if x &&& 3 = 2 then 98 else 66
def ch3 (a b c : Int32) (i : Nat) : Int32 := if i = 0 then a else if i = 1 then b else c
def B8 (x : Int32) : Prop := 0 ≤ x.toInt ∧ x.toInt ≤ 255
theorem lett_b8 (x : Int32) : B8 (lett x) := by
  have h1 : B8 97 := ⟨by decide, by decide⟩
  have h2 : B8 65 := ⟨by decide, by decide⟩
  have h3 : B8 98 := ⟨by decide, by decide⟩
  have h4 : B8 66 := ⟨by decide, by decide⟩
  unfold lett; split; · exact h1
  split; · exact h2
  split; · exact h3
  exact h4
theorem narC {x : Int32} (h : B8 x) : nar .char x = x := by
  have h1 := c_i2c x
  obtain ⟨h2, h3⟩ := h
  apply Int32.toInt_inj.mp
  show x.toUInt32.toUInt16.toUInt32.toInt32.toInt = x.toInt
  omega
theorem i2c_b8 (x : Int32) : B8 (x &&& 255).toUInt32.toUInt16.toUInt32.toInt32 := by
  have h1 := c_mask x 255 8 (by decide) (by decide)
  have h2 := c_i2c (x &&& 255)
  unfold B8; omega
theorem lat2 {a b : Int32} (ha : B8 a) (hb : B8 b) : Lat 2 (updI (updI (fun _ => 0) 0 a) 1 b) := fun i hi => by
  unfold updI; split; · exact hb
  split; · exact ha
  show 0 ≤ (0 : Int32).toInt ∧ (0 : Int32).toInt ≤ 255; decide
theorem lat3 {a b c : Int32} (ha : B8 a) (hb : B8 b) (hc : B8 c) : Lat 3 (updI (updI (updI (fun _ => 0) 0 a) 1 b) 2 c) := fun i hi => by
  unfold updI; split; · exact hc
  split; · exact hb
  split; · exact ha
  show 0 ≤ (0 : Int32).toInt ∧ (0 : Int32).toInt ≤ 255; decide
theorem ch2_eq {a b c : Int32} {i : Nat} (hi : i < 2) : cv (updI (updI (fun _ => 0) 0 a) 1 b i) = cv (ch3 a b c i) := by
  have : i = 0 ∨ i = 1 := by omega
  rcases this with rfl | rfl <;> rfl
theorem ch3_eq {a b c : Int32} {i : Nat} (hi : i < 3) : cv (updI (updI (updI (fun _ => 0) 0 a) 1 b) 2 c i) = cv (ch3 a b c i) := by
  have : i = 0 ∨ i = 1 ∨ i = 2 := by omega
  rcases this with rfl | rfl | rfl <;> rfl
theorem of_lit {l : Int32} {N : Nat} {k : Int32} {K : Nat} (h : l.toInt = (N : Int)) (e : l = k) (hk : k.toInt = (K : Int)) : N = K := by rw [e, hk] at h; omega
theorem lit3 {l : Int32} {N : Nat} (h : l.toInt = (N : Int)) (hN : N ≤ 3) (h0 : ¬ l = 0) (h1 : ¬ l = 1) (h2 : ¬ l = 2) : N = 3 := by
  simp only [← Int32.toInt_inj, Int32.reduceToInt] at h0 h1 h2; omega
def bt (x s : Int32) : Int32 := (x.toUInt32 >>> (s &&& 31).toUInt32).toInt32 &&& 1
def SM (k m : Int32) : Prop := (k &&& 3) = (m &&& 3) ∧ (¬ (k &&& 3) < 1 → bt k 3 = bt m 3) ∧ (¬ (k &&& 3) < 2 → bt k 5 = bt m 5) ∧ (¬ (k &&& 3) < 3 → bt k 7 = bt m 7)
theorem d_method_3_0 : decode method_3_code 0 = .ok (.iload_n 0, 1) := by decide +kernel
theorem d_method_3_1 : decode method_3_code 1 = .ok (.iconst 3, 1) := by decide +kernel
theorem d_method_3_2 : decode method_3_code 2 = .ok (.iand, 1) := by decide +kernel
theorem d_method_3_3 : decode method_3_code 3 = .ok (.istore_n 1, 1) := by decide +kernel
theorem d_method_3_4 : decode method_3_code 4 = .ok (.iload_n 1, 1) := by decide +kernel
theorem d_method_3_5 : decode method_3_code 5 = .ok (.ifCond .ne 6, 3) := by decide +kernel
theorem d_method_3_11 : decode method_3_code 11 = .ok (.iload_n 1, 1) := by decide +kernel
theorem d_method_3_12 : decode method_3_code 12 = .ok (.iconst 1, 1) := by decide +kernel
theorem d_method_3_13 : decode method_3_code 13 = .ok (.if_icmp .ne 6, 3) := by decide +kernel
theorem d_method_3_19 : decode method_3_code 19 = .ok (.iload_n 1, 1) := by decide +kernel
theorem d_method_3_20 : decode method_3_code 20 = .ok (.iconst 2, 1) := by decide +kernel
theorem d_method_3_21 : decode method_3_code 21 = .ok (.if_icmp .ne 6, 3) := by decide +kernel
theorem d_method_3_27 : decode method_3_code 27 = .ok (.bipush 66, 2) := by decide +kernel
theorem d_method_3_29 : decode method_3_code 29 = .ok (.ireturn, 1) := by decide +kernel
theorem d_method_3_24 : decode method_3_code 24 = .ok (.bipush 98, 2) := by decide +kernel
theorem d_method_3_26 : decode method_3_code 26 = .ok (.ireturn, 1) := by decide +kernel
theorem d_method_3_16 : decode method_3_code 16 = .ok (.bipush 65, 2) := by decide +kernel
theorem d_method_3_18 : decode method_3_code 18 = .ok (.ireturn, 1) := by decide +kernel
theorem d_method_3_8 : decode method_3_code 8 = .ok (.bipush 97, 2) := by decide +kernel
theorem d_method_3_10 : decode method_3_code 10 = .ok (.ireturn, 1) := by decide +kernel
theorem pn_4 : plainName "com/example/vipool/vipool/http/HttpHeadSizePinLaw" = true := by first | (simp [plainName, overriddenIn]; done) | decide +kernel
set_option maxRecDepth 65536 in
set_option maxHeartbeats 40000000 in
theorem m_let {Z : State} {a0 : Array Value} (hw : ∀ d ∈ tables_1, d.before a0 Z = true) (x : Int32) (h0 : Heap) (n0 : Nat)  : ∀ l, Does l Z (⟨"com/example/vipool/vipool/http/HttpHeadSizePinLaw", "letter", "(I)C"⟩ : MethodName) method_3_code 2 (some .char) ({ frames := 0, cells := 0, slots := 0, locals := 0 } : Room) n0 #[(.int x)] h0 (fun v h => v = some (.int (lett x)) ∧ h = h0) := by
  intro l
  refine Does.of_wp (plainFor_of_name pn_4) (Ls := #[.val (.int x), .unset]) (fun m => by first | (simp [entryFrame, mkF, argsToLocals, Value.category]; done) | rfl | (rcases ref_cases hfv with rfl | ⟨_, rfl⟩ <;> rfl)) ?_
  intro C
  refine WP.iloadN (pc' := 1) d_method_3_0 rfl rfl ?_
  refine WP.iconst (pc' := 2) d_method_3_1 rfl (z := 3) rfl ?_
  refine WP.iand (pc' := 3) d_method_3_2 rfl ?_
  refine WP.istoreN (pc' := 4) d_method_3_3 rfl (Ls' := #[.val (.int x), .val (.int (x &&& (3 : Int32)))]) rfl ?_
  refine WP.iloadN (pc' := 5) d_method_3_4 rfl rfl ?_
  refine WP.ifc_ne (pc1 := 11) (pc2 := 8) d_method_3_5 (by decide) (by decide) rfl ?_ ?_
  · intro hc5
    refine WP.iloadN (pc' := 12) d_method_3_11 rfl rfl ?_
    refine WP.iconst (pc' := 13) d_method_3_12 rfl (z := 1) rfl ?_
    refine WP.icmp_ne (pc1 := 19) (pc2 := 16) d_method_3_13 (by decide) (by decide) rfl ?_ ?_
    · intro hc13
      refine WP.iloadN (pc' := 20) d_method_3_19 rfl rfl ?_
      refine WP.iconst (pc' := 21) d_method_3_20 rfl (z := 2) rfl ?_
      refine WP.icmp_ne (pc1 := 27) (pc2 := 24) d_method_3_21 (by decide) (by decide) rfl ?_ ?_
      · intro hc21
        refine WP.bipush (pc' := 29) d_method_3_27 rfl (z := 66) rfl ?_
        refine WP.nret (t := .char) d_method_3_29 rfl (by simp) rfl (by decide) (by decide) ⟨congrArg (fun z => some (Value.int z)) (show _ = lett x by unfold lett; rw [if_neg hc5, if_neg hc13, if_neg hc21]; first | done | rfl), rfl⟩
      · intro hc21
        refine WP.bipush (pc' := 26) d_method_3_24 rfl (z := 98) rfl ?_
        refine WP.nret (t := .char) d_method_3_26 rfl (by simp) rfl (by decide) (by decide) ⟨congrArg (fun z => some (Value.int z)) (show _ = lett x by unfold lett; rw [if_neg hc5, if_neg hc13, if_pos hc21]; first | done | rfl), rfl⟩
    · intro hc13
      refine WP.bipush (pc' := 18) d_method_3_16 rfl (z := 65) rfl ?_
      refine WP.nret (t := .char) d_method_3_18 rfl (by simp) rfl (by decide) (by decide) ⟨congrArg (fun z => some (Value.int z)) (show _ = lett x by unfold lett; rw [if_neg hc5, if_pos hc13]; first | done | rfl), rfl⟩
  · intro hc5
    refine WP.bipush (pc' := 10) d_method_3_8 rfl (z := 97) rfl ?_
    refine WP.nret (t := .char) d_method_3_10 rfl (by simp) rfl (by decide) (by decide) ⟨congrArg (fun z => some (Value.int z)) (show _ = lett x by unfold lett; rw [if_pos hc5]; first | done | rfl), rfl⟩
theorem d_method_6_0 : decode method_6_code 0 = .ok (.iload_n 0, 1) := by decide +kernel
theorem d_method_6_1 : decode method_6_code 1 = .ok (.ifCond .ne 14, 3) := by decide +kernel
theorem d_method_6_15 : decode method_6_code 15 = .ok (.iload_n 0, 1) := by decide +kernel
theorem d_method_6_16 : decode method_6_code 16 = .ok (.iconst 1, 1) := by decide +kernel
theorem d_method_6_17 : decode method_6_code 17 = .ok (.if_icmp .ne 8, 3) := by decide +kernel
theorem d_method_6_25 : decode method_6_code 25 = .ok (.iload_n 0, 1) := by decide +kernel
theorem d_method_6_26 : decode method_6_code 26 = .ok (.iconst 2, 1) := by decide +kernel
theorem d_method_6_27 : decode method_6_code 27 = .ok (.if_icmp .ne 22, 3) := by decide +kernel
theorem d_method_6_49 : decode method_6_code 49 = .ok (.new 43, 3) := by decide +kernel
theorem wd10 {Z : State} {a0 : Array Value} (hw : ∀ d ∈ tables_1, d.before a0 Z = true) : (Jvm.Cond.classLink "com/example/vipool/vipool/http/HttpHeadSizePinLaw" (43 : Nat) "java/lang/String").before a0 Z = true := hw _ (List.mem_of_getElem? (i := 10) rfl)
theorem d_method_6_52 : decode method_6_code 52 = .ok (.dup, 1) := by decide +kernel
theorem d_method_6_53 : decode method_6_code 53 = .ok (.iconst 3, 1) := by decide +kernel
theorem d_method_6_54 : decode method_6_code 54 = .ok (.newarray .char, 2) := by decide +kernel
theorem wd13 {Z : State} {a0 : Array Value} (hw : ∀ d ∈ tables_1, d.before a0 Z = true) : (Jvm.Cond.arrayClass Jvm.ClassFile.FieldType.char).before a0 Z = true := hw _ (List.mem_of_getElem? (i := 13) rfl)
theorem d_method_6_56 : decode method_6_code 56 = .ok (.dup, 1) := by decide +kernel
theorem d_method_6_57 : decode method_6_code 57 = .ok (.iconst 0, 1) := by decide +kernel
theorem d_method_6_58 : decode method_6_code 58 = .ok (.iload_n 1, 1) := by decide +kernel
theorem d_method_6_59 : decode method_6_code 59 = .ok (.castore, 1) := by decide +kernel
theorem d_method_6_60 : decode method_6_code 60 = .ok (.dup, 1) := by decide +kernel
theorem d_method_6_61 : decode method_6_code 61 = .ok (.iconst 1, 1) := by decide +kernel
theorem d_method_6_62 : decode method_6_code 62 = .ok (.iload_n 2, 1) := by decide +kernel
theorem d_method_6_63 : decode method_6_code 63 = .ok (.castore, 1) := by decide +kernel
theorem d_method_6_64 : decode method_6_code 64 = .ok (.dup, 1) := by decide +kernel
theorem d_method_6_65 : decode method_6_code 65 = .ok (.iconst 2, 1) := by decide +kernel
theorem d_method_6_66 : decode method_6_code 66 = .ok (.iload_n 3, 1) := by decide +kernel
theorem d_method_6_67 : decode method_6_code 67 = .ok (.castore, 1) := by decide +kernel
theorem d_method_6_68 : decode method_6_code 68 = .ok (.invokespecial 45, 3) := by decide +kernel
theorem wd14 {Z : State} {a0 : Array Value} (hw : ∀ d ∈ tables_1, d.before a0 Z = true) : (Jvm.Cond.methodLink "com/example/vipool/vipool/http/HttpHeadSizePinLaw" (45 : Nat) ({ cls := "java/lang/String", name := "<init>", desc := "([C)V" } : Jvm.MethodName)).before a0 Z = true := hw _ (List.mem_of_getElem? (i := 14) rfl)
theorem wd16 {Z : State} {a0 : Array Value} (hw : ∀ d ∈ tables_1, d.before a0 Z = true) : (Jvm.Cond.code ({ cls := "java/lang/String", name := "<init>", desc := "([C)V" } : Jvm.MethodName) jdk_42_method_3_code (2 : Nat) (Option.none : Option Jvm.ClassFile.FieldType)).before a0 Z = true := hw _ (List.mem_of_getElem? (i := 16) rfl)
theorem pd_12 : parseMethodDescriptor "([C)V" = some ⟨[(.array .char)], none⟩ := by decide +kernel
theorem wd15 {Z : State} {a0 : Array Value} (hw : ∀ d ∈ tables_1, d.before a0 Z = true) : (Jvm.Cond.instanceMethod ({ cls := "java/lang/String", name := "<init>", desc := "([C)V" } : Jvm.MethodName)).before a0 Z = true := hw _ (List.mem_of_getElem? (i := 15) rfl)
theorem d_method_6_71 : decode method_6_code 71 = .ok (.areturn, 1) := by decide +kernel
theorem d_method_6_30 : decode method_6_code 30 = .ok (.new 43, 3) := by decide +kernel
theorem d_method_6_33 : decode method_6_code 33 = .ok (.dup, 1) := by decide +kernel
theorem d_method_6_34 : decode method_6_code 34 = .ok (.iconst 2, 1) := by decide +kernel
theorem d_method_6_35 : decode method_6_code 35 = .ok (.newarray .char, 2) := by decide +kernel
theorem d_method_6_37 : decode method_6_code 37 = .ok (.dup, 1) := by decide +kernel
theorem d_method_6_38 : decode method_6_code 38 = .ok (.iconst 0, 1) := by decide +kernel
theorem d_method_6_39 : decode method_6_code 39 = .ok (.iload_n 1, 1) := by decide +kernel
theorem d_method_6_40 : decode method_6_code 40 = .ok (.castore, 1) := by decide +kernel
theorem d_method_6_41 : decode method_6_code 41 = .ok (.dup, 1) := by decide +kernel
theorem d_method_6_42 : decode method_6_code 42 = .ok (.iconst 1, 1) := by decide +kernel
theorem d_method_6_43 : decode method_6_code 43 = .ok (.iload_n 2, 1) := by decide +kernel
theorem d_method_6_44 : decode method_6_code 44 = .ok (.castore, 1) := by decide +kernel
theorem d_method_6_45 : decode method_6_code 45 = .ok (.invokespecial 45, 3) := by decide +kernel
theorem d_method_6_48 : decode method_6_code 48 = .ok (.areturn, 1) := by decide +kernel
theorem d_method_6_20 : decode method_6_code 20 = .ok (.iload_n 1, 1) := by decide +kernel
theorem d_method_6_21 : decode method_6_code 21 = .ok (.invokestatic 48, 3) := by decide +kernel
theorem wd46 {Z : State} {a0 : Array Value} (hw : ∀ d ∈ tables_1, d.before a0 Z = true) : (Jvm.Cond.methodLink "com/example/vipool/vipool/http/HttpHeadSizePinLaw" (48 : Nat) ({ cls := "java/lang/String", name := "valueOf", desc := "(C)Ljava/lang/String;" } : Jvm.MethodName)).before a0 Z = true := hw _ (List.mem_of_getElem? (i := 46) rfl)
theorem wd48 {Z : State} {a0 : Array Value} (hw : ∀ d ∈ tables_1, d.before a0 Z = true) : (Jvm.Cond.code ({ cls := "java/lang/String", name := "valueOf", desc := "(C)Ljava/lang/String;" } : Jvm.MethodName) jdk_42_method_139_code (1 : Nat) (Option.some (Jvm.ClassFile.FieldType.object "java/lang/String"))).before a0 Z = true := hw _ (List.mem_of_getElem? (i := 48) rfl)
theorem pd_13 : parseMethodDescriptor "(C)Ljava/lang/String;" = some ⟨[.char], some (.object "java/lang/String")⟩ := by decide +kernel
theorem wd47 {Z : State} {a0 : Array Value} (hw : ∀ d ∈ tables_1, d.before a0 Z = true) : (Jvm.Cond.static ({ cls := "java/lang/String", name := "valueOf", desc := "(C)Ljava/lang/String;" } : Jvm.MethodName)).before a0 Z = true := hw _ (List.mem_of_getElem? (i := 47) rfl)
theorem d_method_6_24 : decode method_6_code 24 = .ok (.areturn, 1) := by decide +kernel
theorem d_method_6_4 : decode method_6_code 4 = .ok (.new 43, 3) := by decide +kernel
theorem d_method_6_7 : decode method_6_code 7 = .ok (.dup, 1) := by decide +kernel
theorem d_method_6_8 : decode method_6_code 8 = .ok (.iconst 0, 1) := by decide +kernel
theorem d_method_6_9 : decode method_6_code 9 = .ok (.newarray .char, 2) := by decide +kernel
theorem d_method_6_11 : decode method_6_code 11 = .ok (.invokespecial 45, 3) := by decide +kernel
theorem d_method_6_14 : decode method_6_code 14 = .ok (.areturn, 1) := by decide +kernel
set_option maxRecDepth 65536 in
set_option maxHeartbeats 40000000 in
theorem m_str {Z : State} {a0 : Array Value} (hw : ∀ d ∈ tables_1, d.before a0 Z = true) (ln : Int32) (x1 : Int32) (x2 : Int32) (x3 : Int32) (h0 : Heap) (n0 : Nat) (Z0 : n0 ≤ h0.size) (O0 : Old Z n0 h0) (cs : Int32) (S_CS : Sta Z Z.heap "java/lang/String" "COMPACT_STRINGS" "Z" (.int cs)) (hcs : ¬ cs = 0) (N : Nat) (hN : ln.toInt = (N : Int)) (hN3 : N ≤ 3) (hx1 : B8 x1) (hx2 : B8 x2) (hx3 : B8 x3) : ∀ l, DoesH l Z consts_1 (⟨"com/example/vipool/vipool/http/HttpHeadSizePinLaw", "str", "(ICCC)Ljava/lang/String;"⟩ : MethodName) method_6_code 4 (some (.object "java/lang/String")) ({ frames := 4, cells := 6, slots := 15, locals := 66 } : Room) n0 #[(.int ln), (.int x1), (.int x2), (.int x3)] h0 (fun v h => ∃ s b : Addr, v = some (.ref s) ∧ Keep h0 h [] ∧ Exa Z h s "java/lang/String" ∧ Fld Z h s "java/lang/String" "value" "[B" (.ref b) ∧ Fld Z h s "java/lang/String" "coder" "B" (.int 0) ∧ Ari Z h b .byte N (fun i => cv (ch3 x1 x2 x3 i))) := by
  intro l
  refine DoesH.of_wp (plainFor_of_name pn_4) (Ls := #[.val (.int ln), .val (.int x1), .val (.int x2), .val (.int x3)]) (fun m => by first | (simp [entryFrame, mkF, argsToLocals, Value.category]; done) | rfl | (rcases ref_cases hfv with rfl | ⟨_, rfl⟩ <;> rfl)) ?_
  intro C vm0 Hd0
  have K0 := Keep.refl h0 []
  refine WP.iloadN (pc' := 1) d_method_6_0 rfl rfl ?_
  refine WP.ifc_ne (pc1 := 15) (pc2 := 4) d_method_6_1 (by decide) (by decide) rfl ?_ ?_
  · intro hc1
    refine WP.iloadN (pc' := 16) d_method_6_15 rfl rfl ?_
    refine WP.iconst (pc' := 17) d_method_6_16 rfl (z := 1) rfl ?_
    refine WP.icmp_ne (pc1 := 25) (pc2 := 20) d_method_6_17 (by decide) (by decide) rfl ?_ ?_
    · intro hc17
      refine WP.iloadN (pc' := 26) d_method_6_25 rfl rfl ?_
      refine WP.iconst (pc' := 27) d_method_6_26 rfl (z := 2) rfl ?_
      refine WP.icmp_ne (pc1 := 49) (pc2 := 30) d_method_6_27 (by decide) (by decide) rfl ?_ ?_
      · intro hc27
        refine WP.newO (cl' := 1) (sl' := 4) (pc' := 52) d_method_6_49 rfl (wd10 hw) (wd11 hw) (wd12 hw) rfl rfl (by decide) (by decide) ?_
        intro h1 b1 g1 E1 A1 D1
        have Sf2 : Safe Z consts_1 vm0 h0 b1 := Safe.new (by rw [g1]; exact Nat.le_refl _)
        have ge3 : n0 ≤ b1 := by rw [g1]; exact Z0
        have sz4 : h0.size ≤ b1 := by rw [g1]; exact K0.1
        have O5 := O0.ext E1
        have K6 := K0.ext E1
        have Sf7 := Safe.ext E1 Hd0.ch Sf2
        have Hd8 := Hd0.ext E1
        have Z9 : n0 ≤ h1.size := Nat.le_trans Z0 E1.1
        have F10 : Fld Z h1 b1 "java/lang/String" "value" "[B" .null := D1 (Or.inr (wd26 hw)) (ty := (.array .byte)) (by decide)
        have F11 : Fld Z h1 b1 "java/lang/String" "coder" "B" (.int (0 : Int32)) := D1 (Or.inr (wd27 hw)) (ty := .byte) (by decide)
        refine WP.dup (pc' := 53) d_method_6_52 rfl rfl ?_
        refine WP.iconst (pc' := 54) d_method_6_53 rfl (z := 3) rfl ?_
        refine WP.newPI (ty := .char) (n := 3) (cap := 3) (cl' := 2) (sl' := 7) (pc' := 56) d_method_6_54 rfl rfl rfl (wd13 hw) (by decide) (by decide) (by decide) rfl rfl (by decide) (by decide) ?_
        intro h12 b12 g12 E12 A12
        have Sf13 : Safe Z consts_1 vm0 h1 b12 := Safe.new (by rw [g12]; exact Nat.le_refl _)
        have ge14 : n0 ≤ b12 := by rw [g12]; exact Z9
        have sz15 : h0.size ≤ b12 := by rw [g12]; exact K6.1
        have ne16 : b1 ≠ b12 := by rw [g12]; exact Nat.ne_of_lt A1.lt
        have E17 := A1.ext E12
        have F18 := F10.ext E12
        have F19 := F11.ext E12
        have O20 := O5.ext E12
        have K21 := K6.ext E12
        have Sf22 := Safe.ext E12 Hd8.ch Sf7
        have Sf23 := Safe.ext E12 Hd8.ch Sf13
        have Hd24 := Hd8.ext E12
        have Z25 : n0 ≤ h12.size := Nat.le_trans Z9 E12.1
        refine WP.dup (pc' := 57) d_method_6_56 rfl rfl ?_
        refine WP.iconst (pc' := 58) d_method_6_57 rfl (z := 0) rfl ?_
        refine WP.iloadN (pc' := 59) d_method_6_58 rfl rfl ?_
        refine WP.castoreI (x' := x1) (0) (pc' := 60) d_method_6_59 rfl A12 (by decide) (by decide) ge14 (narC hx1) ?_
        intro h26 K27 A28
        have E29 := E17.keep K27
        have F30 := F18.keep K27 (ninS ne16 nin0)
        have F31 := F19.keep K27 (ninS ne16 nin0)
        have O32 := O20.keep K27 (allS ge14 all0)
        have K33 := K21.trans K27 (allS (Or.inr sz15) all0)
        have Sf34 := Safe.keep K27 (allS Sf23 all0) Hd24.ch Sf22
        have Sf35 := Safe.keep K27 (allS Sf23 all0) Hd24.ch Sf23
        have Hd36 := Hd24.keep K27 (allS Sf23 all0)
        have Z37 : n0 ≤ h26.size := Nat.le_trans Z25 K27.1
        refine WP.dup (pc' := 61) d_method_6_60 rfl rfl ?_
        refine WP.iconst (pc' := 62) d_method_6_61 rfl (z := 1) rfl ?_
        refine WP.iloadN (pc' := 63) d_method_6_62 rfl rfl ?_
        refine WP.castoreI (x' := x2) (1) (pc' := 64) d_method_6_63 rfl A28 (by decide) (by decide) ge14 (narC hx2) ?_
        intro h38 K39 A40
        have E41 := E29.keep K39
        have F42 := F30.keep K39 (ninS ne16 nin0)
        have F43 := F31.keep K39 (ninS ne16 nin0)
        have O44 := O32.keep K39 (allS ge14 all0)
        have K45 := K33.trans K39 (allS (Or.inr sz15) all0)
        have Sf46 := Safe.keep K39 (allS Sf35 all0) Hd36.ch Sf34
        have Sf47 := Safe.keep K39 (allS Sf35 all0) Hd36.ch Sf35
        have Hd48 := Hd36.keep K39 (allS Sf35 all0)
        have Z49 : n0 ≤ h38.size := Nat.le_trans Z37 K39.1
        refine WP.dup (pc' := 65) d_method_6_64 rfl rfl ?_
        refine WP.iconst (pc' := 66) d_method_6_65 rfl (z := 2) rfl ?_
        refine WP.iloadN (pc' := 67) d_method_6_66 rfl rfl ?_
        refine WP.castoreI (x' := x3) (2) (pc' := 68) d_method_6_67 rfl A40 (by decide) (by decide) ge14 (narC hx3) ?_
        intro h50 K51 A52
        have E53 := E41.keep K51
        have F54 := F42.keep K51 (ninS ne16 nin0)
        have F55 := F43.keep K51 (ninS ne16 nin0)
        have O56 := O44.keep K51 (allS ge14 all0)
        have K57 := K45.trans K51 (allS (Or.inr sz15) all0)
        have Sf58 := Safe.keep K51 (allS Sf47 all0) Hd48.ch Sf46
        have Sf59 := Safe.keep K51 (allS Sf47 all0) Hd48.ch Sf47
        have Hd60 := Hd48.keep K51 (allS Sf47 all0)
        have Z61 : n0 ≤ h50.size := Nat.le_trans Z49 K51.1
        refine WP.callIH (a := b1) (argsL := [(.ref b12)]) (rest := [(.ref b1)]) (wd := 1) (cl' := 6) (sl' := 15) (pc' := 71) d_method_6_68 rfl rfl (wd14 hw) (wd15 hw) (wd12 hw) (wd16 hw) (by decide) (hELw hw) Hd60 (s_si hw b1 b12 h50 n0 Z61 ge3 E53 F54 F55 cs (S_CS.ext O56.2) hcs 3 (updI (updI (updI (fun _ => 0) 0 x1) 1 x2) 2 x3) A52 (by omega) (by omega) (lat3 hx1 hx2 hx3) (Ne.symm ne16)) pd_12 rfl rfl rfl (Nat.le_of_eq rfl) (by decide) (by decide) rfl rfl (by decide) (by decide) ?_
        rintro v vm62 h62 ⟨rfl, c62, K62, E62, Fv62, Fc62, B62⟩ Hd62 Cr62
        have Sf63 := Cr62.safe E53.lt Sf58
        have Sf64 := Cr62.safe A52.lt Sf59
        have E65 := E53.keep K62
        have V66 := A52.keep K62 (ninS (Ne.symm ne16) nin0)
        have O67 := O56.keep K62 (allS ge3 all0)
        have K68 := K57.trans K62 (allS (Or.inr sz4) all0)
        have Z69 : n0 ≤ h62.size := Nat.le_trans Z61 K62.1
        refine WP.castS (st' := [(.ref b1)]) rfl ?_
        refine WP.aretH d_method_6_71 rfl rfl rfl (hELw hw) Hd62 (by decide) (by decide) ⟨_, _, rfl, K68, E62, Fv62, Fc62, (by rw [show N = 3 from lit3 hN hN3 hc1 hc17 hc27]; exact B62.congr fun j hj => ch3_eq hj)⟩
      · intro hc27
        refine WP.newO (cl' := 1) (sl' := 4) (pc' := 33) d_method_6_30 rfl (wd10 hw) (wd11 hw) (wd12 hw) rfl rfl (by decide) (by decide) ?_
        intro h70 b70 g70 E70 A70 D70
        have Sf71 : Safe Z consts_1 vm0 h0 b70 := Safe.new (by rw [g70]; exact Nat.le_refl _)
        have ge72 : n0 ≤ b70 := by rw [g70]; exact Z0
        have sz73 : h0.size ≤ b70 := by rw [g70]; exact K0.1
        have O74 := O0.ext E70
        have K75 := K0.ext E70
        have Sf76 := Safe.ext E70 Hd0.ch Sf71
        have Hd77 := Hd0.ext E70
        have Z78 : n0 ≤ h70.size := Nat.le_trans Z0 E70.1
        have F79 : Fld Z h70 b70 "java/lang/String" "value" "[B" .null := D70 (Or.inr (wd26 hw)) (ty := (.array .byte)) (by decide)
        have F80 : Fld Z h70 b70 "java/lang/String" "coder" "B" (.int (0 : Int32)) := D70 (Or.inr (wd27 hw)) (ty := .byte) (by decide)
        refine WP.dup (pc' := 34) d_method_6_33 rfl rfl ?_
        refine WP.iconst (pc' := 35) d_method_6_34 rfl (z := 2) rfl ?_
        refine WP.newPI (ty := .char) (n := 2) (cap := 2) (cl' := 2) (sl' := 6) (pc' := 37) d_method_6_35 rfl rfl rfl (wd13 hw) (by decide) (by decide) (by decide) rfl rfl (by decide) (by decide) ?_
        intro h81 b81 g81 E81 A81
        have Sf82 : Safe Z consts_1 vm0 h70 b81 := Safe.new (by rw [g81]; exact Nat.le_refl _)
        have ge83 : n0 ≤ b81 := by rw [g81]; exact Z78
        have sz84 : h0.size ≤ b81 := by rw [g81]; exact K75.1
        have ne85 : b70 ≠ b81 := by rw [g81]; exact Nat.ne_of_lt A70.lt
        have E86 := A70.ext E81
        have F87 := F79.ext E81
        have F88 := F80.ext E81
        have O89 := O74.ext E81
        have K90 := K75.ext E81
        have Sf91 := Safe.ext E81 Hd77.ch Sf76
        have Sf92 := Safe.ext E81 Hd77.ch Sf82
        have Hd93 := Hd77.ext E81
        have Z94 : n0 ≤ h81.size := Nat.le_trans Z78 E81.1
        refine WP.dup (pc' := 38) d_method_6_37 rfl rfl ?_
        refine WP.iconst (pc' := 39) d_method_6_38 rfl (z := 0) rfl ?_
        refine WP.iloadN (pc' := 40) d_method_6_39 rfl rfl ?_
        refine WP.castoreI (x' := x1) (0) (pc' := 41) d_method_6_40 rfl A81 (by decide) (by decide) ge83 (narC hx1) ?_
        intro h95 K96 A97
        have E98 := E86.keep K96
        have F99 := F87.keep K96 (ninS ne85 nin0)
        have F100 := F88.keep K96 (ninS ne85 nin0)
        have O101 := O89.keep K96 (allS ge83 all0)
        have K102 := K90.trans K96 (allS (Or.inr sz84) all0)
        have Sf103 := Safe.keep K96 (allS Sf92 all0) Hd93.ch Sf91
        have Sf104 := Safe.keep K96 (allS Sf92 all0) Hd93.ch Sf92
        have Hd105 := Hd93.keep K96 (allS Sf92 all0)
        have Z106 : n0 ≤ h95.size := Nat.le_trans Z94 K96.1
        refine WP.dup (pc' := 42) d_method_6_41 rfl rfl ?_
        refine WP.iconst (pc' := 43) d_method_6_42 rfl (z := 1) rfl ?_
        refine WP.iloadN (pc' := 44) d_method_6_43 rfl rfl ?_
        refine WP.castoreI (x' := x2) (1) (pc' := 45) d_method_6_44 rfl A97 (by decide) (by decide) ge83 (narC hx2) ?_
        intro h107 K108 A109
        have E110 := E98.keep K108
        have F111 := F99.keep K108 (ninS ne85 nin0)
        have F112 := F100.keep K108 (ninS ne85 nin0)
        have O113 := O101.keep K108 (allS ge83 all0)
        have K114 := K102.trans K108 (allS (Or.inr sz84) all0)
        have Sf115 := Safe.keep K108 (allS Sf104 all0) Hd105.ch Sf103
        have Sf116 := Safe.keep K108 (allS Sf104 all0) Hd105.ch Sf104
        have Hd117 := Hd105.keep K108 (allS Sf104 all0)
        have Z118 : n0 ≤ h107.size := Nat.le_trans Z106 K108.1
        refine WP.callIH (a := b70) (argsL := [(.ref b81)]) (rest := [(.ref b70)]) (wd := 1) (cl' := 6) (sl' := 14) (pc' := 48) d_method_6_45 rfl rfl (wd14 hw) (wd15 hw) (wd12 hw) (wd16 hw) (by decide) (hELw hw) Hd117 (s_si hw b70 b81 h107 n0 Z118 ge72 E110 F111 F112 cs (S_CS.ext O113.2) hcs 2 (updI (updI (fun _ => 0) 0 x1) 1 x2) A109 (by omega) (by omega) (lat2 hx1 hx2) (Ne.symm ne85)) pd_12 rfl rfl rfl (Nat.le_of_eq rfl) (by decide) (by decide) rfl rfl (by decide) (by decide) ?_
        rintro v vm119 h119 ⟨rfl, c119, K119, E119, Fv119, Fc119, B119⟩ Hd119 Cr119
        have Sf120 := Cr119.safe E110.lt Sf115
        have Sf121 := Cr119.safe A109.lt Sf116
        have E122 := E110.keep K119
        have V123 := A109.keep K119 (ninS (Ne.symm ne85) nin0)
        have O124 := O113.keep K119 (allS ge72 all0)
        have K125 := K114.trans K119 (allS (Or.inr sz73) all0)
        have Z126 : n0 ≤ h119.size := Nat.le_trans Z118 K119.1
        refine WP.castS (st' := [(.ref b70)]) rfl ?_
        refine WP.aretH d_method_6_48 rfl rfl rfl (hELw hw) Hd119 (by decide) (by decide) ⟨_, _, rfl, K125, E119, Fv119, Fc119, (by rw [show N = 2 from of_lit hN hc27 rfl]; exact B119.congr fun j hj => ch2_eq hj)⟩
    · intro hc17
      refine WP.iloadN (pc' := 21) d_method_6_20 rfl rfl ?_
      refine WP.callS (argsL := [(.int x1)]) (rest := []) (wd := 0) (cl' := 2) (sl' := 5) (pc' := 24) d_method_6_21 rfl (wd46 hw) (wd47 hw) (wd12 hw) (wd48 hw) (by decide) (s_vo hw x1 h0 n0 Z0 hx1 cs (S_CS.ext O0.2) hcs) pd_13 rfl rfl rfl (Nat.le_of_eq rfl) (by decide) (by decide) rfl rfl (by decide) (by decide) ?_
      rintro v h127 ⟨s127, c127, rfl, K127, E127, Fv127, Fc127, B127⟩
      have O128 := O0.keep K127 all0
      have K129 := K0.trans K127 all0
      have Hd130 := Hd0.keep K127 all0
      have Z131 : n0 ≤ h127.size := Nat.le_trans Z0 K127.1
      refine WP.castS (st' := [(.ref s127)]) rfl ?_
      refine WP.aretH d_method_6_24 rfl rfl rfl (hELw hw) Hd130 (by decide) (by decide) ⟨_, _, rfl, K129, E127, Fv127, Fc127, by rw [show N = 1 from of_lit hN hc17 rfl]; exact B127.congr fun j hj => by rw [show j = 0 by omega]; rfl⟩
  · intro hc1
    refine WP.newO (cl' := 1) (sl' := 4) (pc' := 7) d_method_6_4 rfl (wd10 hw) (wd11 hw) (wd12 hw) rfl rfl (by decide) (by decide) ?_
    intro h132 b132 g132 E132 A132 D132
    have Sf133 : Safe Z consts_1 vm0 h0 b132 := Safe.new (by rw [g132]; exact Nat.le_refl _)
    have ge134 : n0 ≤ b132 := by rw [g132]; exact Z0
    have sz135 : h0.size ≤ b132 := by rw [g132]; exact K0.1
    have O136 := O0.ext E132
    have K137 := K0.ext E132
    have Sf138 := Safe.ext E132 Hd0.ch Sf133
    have Hd139 := Hd0.ext E132
    have Z140 : n0 ≤ h132.size := Nat.le_trans Z0 E132.1
    have F141 : Fld Z h132 b132 "java/lang/String" "value" "[B" .null := D132 (Or.inr (wd26 hw)) (ty := (.array .byte)) (by decide)
    have F142 : Fld Z h132 b132 "java/lang/String" "coder" "B" (.int (0 : Int32)) := D132 (Or.inr (wd27 hw)) (ty := .byte) (by decide)
    refine WP.dup (pc' := 8) d_method_6_7 rfl rfl ?_
    refine WP.iconst (pc' := 9) d_method_6_8 rfl (z := 0) rfl ?_
    refine WP.newPI (ty := .char) (n := 0) (cap := 0) (cl' := 2) (sl' := 4) (pc' := 11) d_method_6_9 rfl rfl rfl (wd13 hw) (by decide) (by decide) (by decide) rfl rfl (by decide) (by decide) ?_
    intro h143 b143 g143 E143 A143
    have Sf144 : Safe Z consts_1 vm0 h132 b143 := Safe.new (by rw [g143]; exact Nat.le_refl _)
    have ge145 : n0 ≤ b143 := by rw [g143]; exact Z140
    have sz146 : h0.size ≤ b143 := by rw [g143]; exact K137.1
    have ne147 : b132 ≠ b143 := by rw [g143]; exact Nat.ne_of_lt A132.lt
    have E148 := A132.ext E143
    have F149 := F141.ext E143
    have F150 := F142.ext E143
    have O151 := O136.ext E143
    have K152 := K137.ext E143
    have Sf153 := Safe.ext E143 Hd139.ch Sf138
    have Sf154 := Safe.ext E143 Hd139.ch Sf144
    have Hd155 := Hd139.ext E143
    have Z156 : n0 ≤ h143.size := Nat.le_trans Z140 E143.1
    refine WP.callIH (a := b132) (argsL := [(.ref b143)]) (rest := [(.ref b132)]) (wd := 1) (cl' := 6) (sl' := 12) (pc' := 14) d_method_6_11 rfl rfl (wd14 hw) (wd15 hw) (wd12 hw) (wd16 hw) (by decide) (hELw hw) Hd155 (s_si hw b132 b143 h143 n0 Z156 ge134 E148 F149 F150 cs (S_CS.ext O151.2) hcs 0 (fun _ => 0) A143 (by omega) (by omega) (fun i hi => absurd hi (Nat.not_lt_zero _)) (Ne.symm ne147)) pd_12 rfl rfl rfl (Nat.le_of_eq rfl) (by decide) (by decide) rfl rfl (by decide) (by decide) ?_
    rintro v vm157 h157 ⟨rfl, c157, K157, E157, Fv157, Fc157, B157⟩ Hd157 Cr157
    have Sf158 := Cr157.safe E148.lt Sf153
    have Sf159 := Cr157.safe A143.lt Sf154
    have E160 := E148.keep K157
    have V161 := A143.keep K157 (ninS (Ne.symm ne147) nin0)
    have O162 := O151.keep K157 (allS ge134 all0)
    have K163 := K152.trans K157 (allS (Or.inr sz135) all0)
    have Z164 : n0 ≤ h157.size := Nat.le_trans Z156 K157.1
    refine WP.castS (st' := [(.ref b132)]) rfl ?_
    refine WP.aretH d_method_6_14 rfl rfl rfl (hELw hw) Hd157 (by decide) (by decide) ⟨_, _, rfl, K163, E157, Fv157, Fc157, (Ari.nil B157 (of_lit hN hc1 rfl))⟩
theorem d_method_4_0 : decode method_4_code 0 = .ok (.iload_n 0, 1) := by decide +kernel
theorem d_method_4_1 : decode method_4_code 1 = .ok (.iconst 3, 1) := by decide +kernel
theorem d_method_4_2 : decode method_4_code 2 = .ok (.iand, 1) := by decide +kernel
theorem d_method_4_3 : decode method_4_code 3 = .ok (.iload_n 0, 1) := by decide +kernel
theorem d_method_4_4 : decode method_4_code 4 = .ok (.iconst 2, 1) := by decide +kernel
theorem d_method_4_5 : decode method_4_code 5 = .ok (.iushr, 1) := by decide +kernel
theorem d_method_4_6 : decode method_4_code 6 = .ok (.invokestatic 35, 3) := by decide +kernel
theorem wd4 {Z : State} {a0 : Array Value} (hw : ∀ d ∈ tables_1, d.before a0 Z = true) : (Jvm.Cond.methodLink "com/example/vipool/vipool/http/HttpHeadSizePinLaw" (35 : Nat) ({ cls := "com/example/vipool/vipool/http/HttpHeadSizePinLaw", name := "letter", desc := "(I)C" } : Jvm.MethodName)).before a0 Z = true := hw _ (List.mem_of_getElem? (i := 4) rfl)
theorem wd6 {Z : State} {a0 : Array Value} (hw : ∀ d ∈ tables_1, d.before a0 Z = true) : (Jvm.Cond.code ({ cls := "com/example/vipool/vipool/http/HttpHeadSizePinLaw", name := "letter", desc := "(I)C" } : Jvm.MethodName) method_3_code (2 : Nat) (Option.some Jvm.ClassFile.FieldType.char)).before a0 Z = true := hw _ (List.mem_of_getElem? (i := 6) rfl)
theorem wd2 {Z : State} {a0 : Array Value} (hw : ∀ d ∈ tables_1, d.before a0 Z = true) : (Jvm.Cond.initialized "com/example/vipool/vipool/http/HttpHeadSizePinLaw").before a0 Z = true := hw _ (List.mem_of_getElem? (i := 2) rfl)
theorem pd_14 : parseMethodDescriptor "(I)C" = some ⟨[.int], some .char⟩ := by decide +kernel
theorem wd5 {Z : State} {a0 : Array Value} (hw : ∀ d ∈ tables_1, d.before a0 Z = true) : (Jvm.Cond.static ({ cls := "com/example/vipool/vipool/http/HttpHeadSizePinLaw", name := "letter", desc := "(I)C" } : Jvm.MethodName)).before a0 Z = true := hw _ (List.mem_of_getElem? (i := 5) rfl)
theorem d_method_4_9 : decode method_4_code 9 = .ok (.iload_n 0, 1) := by decide +kernel
theorem d_method_4_10 : decode method_4_code 10 = .ok (.iconst 4, 1) := by decide +kernel
theorem d_method_4_11 : decode method_4_code 11 = .ok (.iushr, 1) := by decide +kernel
theorem d_method_4_12 : decode method_4_code 12 = .ok (.invokestatic 35, 3) := by decide +kernel
theorem d_method_4_15 : decode method_4_code 15 = .ok (.iload_n 0, 1) := by decide +kernel
theorem d_method_4_16 : decode method_4_code 16 = .ok (.bipush 6, 2) := by decide +kernel
theorem d_method_4_18 : decode method_4_code 18 = .ok (.iushr, 1) := by decide +kernel
theorem d_method_4_19 : decode method_4_code 19 = .ok (.invokestatic 35, 3) := by decide +kernel
theorem d_method_4_22 : decode method_4_code 22 = .ok (.invokestatic 39, 3) := by decide +kernel
theorem wd7 {Z : State} {a0 : Array Value} (hw : ∀ d ∈ tables_1, d.before a0 Z = true) : (Jvm.Cond.methodLink "com/example/vipool/vipool/http/HttpHeadSizePinLaw" (39 : Nat) ({ cls := "com/example/vipool/vipool/http/HttpHeadSizePinLaw", name := "str", desc := "(ICCC)Ljava/lang/String;" } : Jvm.MethodName)).before a0 Z = true := hw _ (List.mem_of_getElem? (i := 7) rfl)
theorem wd9 {Z : State} {a0 : Array Value} (hw : ∀ d ∈ tables_1, d.before a0 Z = true) : (Jvm.Cond.code ({ cls := "com/example/vipool/vipool/http/HttpHeadSizePinLaw", name := "str", desc := "(ICCC)Ljava/lang/String;" } : Jvm.MethodName) method_6_code (4 : Nat) (Option.some (Jvm.ClassFile.FieldType.object "java/lang/String"))).before a0 Z = true := hw _ (List.mem_of_getElem? (i := 9) rfl)
theorem pd_15 : parseMethodDescriptor "(ICCC)Ljava/lang/String;" = some ⟨[.int, .char, .char, .char], some (.object "java/lang/String")⟩ := by decide +kernel
theorem wd8 {Z : State} {a0 : Array Value} (hw : ∀ d ∈ tables_1, d.before a0 Z = true) : (Jvm.Cond.static ({ cls := "com/example/vipool/vipool/http/HttpHeadSizePinLaw", name := "str", desc := "(ICCC)Ljava/lang/String;" } : Jvm.MethodName)).before a0 Z = true := hw _ (List.mem_of_getElem? (i := 8) rfl)
theorem d_method_4_25 : decode method_4_code 25 = .ok (.areturn, 1) := by decide +kernel
set_option maxRecDepth 65536 in
set_option maxHeartbeats 40000000 in
theorem m_name {Z : State} {a0 : Array Value} (hw : ∀ d ∈ tables_1, d.before a0 Z = true) (k : Int32) (h0 : Heap) (n0 : Nat) (Z0 : n0 ≤ h0.size) (O0 : Old Z n0 h0) (cs : Int32) (S_CS : Sta Z Z.heap "java/lang/String" "COMPACT_STRINGS" "Z" (.int cs)) (hcs : ¬ cs = 0) (N : Nat) (hN : (k &&& 3).toInt = (N : Int)) (hN3 : N ≤ 3) : ∀ l, DoesH l Z consts_1 (⟨"com/example/vipool/vipool/http/HttpHeadSizePinLaw", "name", "(I)Ljava/lang/String;"⟩ : MethodName) method_4_code 1 (some (.object "java/lang/String")) ({ frames := 5, cells := 6, slots := 15, locals := 81 } : Room) n0 #[(.int k)] h0 (fun v h => ∃ s b : Addr, v = some (.ref s) ∧ Keep h0 h [] ∧ Exa Z h s "java/lang/String" ∧ Fld Z h s "java/lang/String" "value" "[B" (.ref b) ∧ Fld Z h s "java/lang/String" "coder" "B" (.int 0) ∧ Ari Z h b .byte N (fun i => cv (ch3 (lett ((k.toUInt32 >>> ((2 : Int32) &&& 31).toUInt32).toInt32)) (lett ((k.toUInt32 >>> ((4 : Int32) &&& 31).toUInt32).toInt32)) (lett ((k.toUInt32 >>> ((6 : Int32) &&& 31).toUInt32).toInt32)) i))) := by
  intro l
  refine DoesH.of_wp (plainFor_of_name pn_4) (Ls := #[.val (.int k)]) (fun m => by first | (simp [entryFrame, mkF, argsToLocals, Value.category]; done) | rfl | (rcases ref_cases hfv with rfl | ⟨_, rfl⟩ <;> rfl)) ?_
  intro C vm0 Hd0
  have K0 := Keep.refl h0 []
  refine WP.iloadN (pc' := 1) d_method_4_0 rfl rfl ?_
  refine WP.iconst (pc' := 2) d_method_4_1 rfl (z := 3) rfl ?_
  refine WP.iand (pc' := 3) d_method_4_2 rfl ?_
  refine WP.iloadN (pc' := 4) d_method_4_3 rfl rfl ?_
  refine WP.iconst (pc' := 5) d_method_4_4 rfl (z := 2) rfl ?_
  refine WP.iushr (pc' := 6) d_method_4_5 rfl ?_
  refine WP.callS (argsL := [(.int ((k.toUInt32 >>> ((2 : Int32) &&& 31).toUInt32).toInt32))]) (rest := [(.int (k &&& (3 : Int32)))]) (wd := 1) (cl' := 0) (sl' := 0) (pc' := 9) d_method_4_6 rfl (wd4 hw) (wd5 hw) (wd2 hw) (wd6 hw) (by decide) (m_let hw ((k.toUInt32 >>> ((2 : Int32) &&& 31).toUInt32).toInt32) h0 n0) pd_14 rfl rfl rfl (Nat.le_of_eq rfl) (by decide) (by decide) rfl rfl (by decide) (by decide) ?_
  rintro v hh1 ⟨rfl, he1⟩
  rw [he1]
  refine WP.castS (st' := [(.int (lett ((k.toUInt32 >>> ((2 : Int32) &&& 31).toUInt32).toInt32))), (.int (k &&& (3 : Int32)))]) rfl ?_
  refine WP.iloadN (pc' := 10) d_method_4_9 rfl rfl ?_
  refine WP.iconst (pc' := 11) d_method_4_10 rfl (z := 4) rfl ?_
  refine WP.iushr (pc' := 12) d_method_4_11 rfl ?_
  refine WP.callS (argsL := [(.int ((k.toUInt32 >>> ((4 : Int32) &&& 31).toUInt32).toInt32))]) (rest := [(.int (lett ((k.toUInt32 >>> ((2 : Int32) &&& 31).toUInt32).toInt32))), (.int (k &&& (3 : Int32)))]) (wd := 2) (cl' := 0) (sl' := 0) (pc' := 15) d_method_4_12 rfl (wd4 hw) (wd5 hw) (wd2 hw) (wd6 hw) (by decide) (m_let hw ((k.toUInt32 >>> ((4 : Int32) &&& 31).toUInt32).toInt32) h0 n0) pd_14 rfl rfl rfl (Nat.le_of_eq rfl) (by decide) (by decide) rfl rfl (by decide) (by decide) ?_
  rintro v hh2 ⟨rfl, he2⟩
  rw [he2]
  refine WP.castS (st' := [(.int (lett ((k.toUInt32 >>> ((4 : Int32) &&& 31).toUInt32).toInt32))), (.int (lett ((k.toUInt32 >>> ((2 : Int32) &&& 31).toUInt32).toInt32))), (.int (k &&& (3 : Int32)))]) rfl ?_
  refine WP.iloadN (pc' := 16) d_method_4_15 rfl rfl ?_
  refine WP.bipush (pc' := 18) d_method_4_16 rfl (z := 6) rfl ?_
  refine WP.iushr (pc' := 19) d_method_4_18 rfl ?_
  refine WP.callS (argsL := [(.int ((k.toUInt32 >>> ((6 : Int32) &&& 31).toUInt32).toInt32))]) (rest := [(.int (lett ((k.toUInt32 >>> ((4 : Int32) &&& 31).toUInt32).toInt32))), (.int (lett ((k.toUInt32 >>> ((2 : Int32) &&& 31).toUInt32).toInt32))), (.int (k &&& (3 : Int32)))]) (wd := 3) (cl' := 0) (sl' := 0) (pc' := 22) d_method_4_19 rfl (wd4 hw) (wd5 hw) (wd2 hw) (wd6 hw) (by decide) (m_let hw ((k.toUInt32 >>> ((6 : Int32) &&& 31).toUInt32).toInt32) h0 n0) pd_14 rfl rfl rfl (Nat.le_of_eq rfl) (by decide) (by decide) rfl rfl (by decide) (by decide) ?_
  rintro v hh3 ⟨rfl, he3⟩
  rw [he3]
  refine WP.castS (st' := [(.int (lett ((k.toUInt32 >>> ((6 : Int32) &&& 31).toUInt32).toInt32))), (.int (lett ((k.toUInt32 >>> ((4 : Int32) &&& 31).toUInt32).toInt32))), (.int (lett ((k.toUInt32 >>> ((2 : Int32) &&& 31).toUInt32).toInt32))), (.int (k &&& (3 : Int32)))]) rfl ?_
  refine WP.callSH (argsL := [(.int (k &&& (3 : Int32))), (.int (lett ((k.toUInt32 >>> ((2 : Int32) &&& 31).toUInt32).toInt32))), (.int (lett ((k.toUInt32 >>> ((4 : Int32) &&& 31).toUInt32).toInt32))), (.int (lett ((k.toUInt32 >>> ((6 : Int32) &&& 31).toUInt32).toInt32)))]) (rest := []) (wd := 0) (cl' := 6) (sl' := 15) (pc' := 25) d_method_4_22 rfl (wd7 hw) (wd8 hw) (wd2 hw) (wd9 hw) (by decide) (hELw hw) Hd0 (m_str hw (k &&& (3 : Int32)) (lett ((k.toUInt32 >>> ((2 : Int32) &&& 31).toUInt32).toInt32)) (lett ((k.toUInt32 >>> ((4 : Int32) &&& 31).toUInt32).toInt32)) (lett ((k.toUInt32 >>> ((6 : Int32) &&& 31).toUInt32).toInt32)) h0 n0 Z0 O0 cs S_CS hcs N hN hN3 (lett_b8 _) (lett_b8 _) (lett_b8 _)) pd_15 rfl rfl rfl (Nat.le_of_eq rfl) (by decide) (by decide) rfl rfl (by decide) (by decide) ?_
  rintro v vm4 h4 ⟨s4, c4, rfl, K4, E4, Fv4, Fc4, B4⟩ Hd4 Cr4
  have O5 := O0.keep K4 all0
  have K6 := K0.trans K4 all0
  have Z7 : n0 ≤ h4.size := Nat.le_trans Z0 K4.1
  refine WP.castS (st' := [(.ref s4)]) rfl ?_
  refine WP.aretH d_method_4_25 rfl rfl rfl (hELw hw) Hd4 (by decide) (by decide) ⟨_, _, rfl, K6, E4, Fv4, Fc4, B4⟩
theorem d_method_5_0 : decode method_5_code 0 = .ok (.iload_n 0, 1) := by decide +kernel
theorem d_method_5_1 : decode method_5_code 1 = .ok (.iconst 3, 1) := by decide +kernel
theorem d_method_5_2 : decode method_5_code 2 = .ok (.iand, 1) := by decide +kernel
theorem d_method_5_3 : decode method_5_code 3 = .ok (.iload_n 0, 1) := by decide +kernel
theorem d_method_5_4 : decode method_5_code 4 = .ok (.iconst 2, 1) := by decide +kernel
theorem d_method_5_5 : decode method_5_code 5 = .ok (.iushr, 1) := by decide +kernel
theorem d_method_5_6 : decode method_5_code 6 = .ok (.sipush 255, 3) := by decide +kernel
theorem d_method_5_9 : decode method_5_code 9 = .ok (.iand, 1) := by decide +kernel
theorem d_method_5_10 : decode method_5_code 10 = .ok (.i2c, 1) := by decide +kernel
theorem d_method_5_11 : decode method_5_code 11 = .ok (.iload_n 0, 1) := by decide +kernel
theorem d_method_5_12 : decode method_5_code 12 = .ok (.bipush 10, 2) := by decide +kernel
theorem d_method_5_14 : decode method_5_code 14 = .ok (.iushr, 1) := by decide +kernel
theorem d_method_5_15 : decode method_5_code 15 = .ok (.sipush 255, 3) := by decide +kernel
theorem d_method_5_18 : decode method_5_code 18 = .ok (.iand, 1) := by decide +kernel
theorem d_method_5_19 : decode method_5_code 19 = .ok (.i2c, 1) := by decide +kernel
theorem d_method_5_20 : decode method_5_code 20 = .ok (.iload_n 0, 1) := by decide +kernel
theorem d_method_5_21 : decode method_5_code 21 = .ok (.bipush 18, 2) := by decide +kernel
theorem d_method_5_23 : decode method_5_code 23 = .ok (.iushr, 1) := by decide +kernel
theorem d_method_5_24 : decode method_5_code 24 = .ok (.sipush 255, 3) := by decide +kernel
theorem d_method_5_27 : decode method_5_code 27 = .ok (.iand, 1) := by decide +kernel
theorem d_method_5_28 : decode method_5_code 28 = .ok (.i2c, 1) := by decide +kernel
theorem d_method_5_29 : decode method_5_code 29 = .ok (.invokestatic 39, 3) := by decide +kernel
theorem d_method_5_32 : decode method_5_code 32 = .ok (.areturn, 1) := by decide +kernel
set_option maxRecDepth 65536 in
set_option maxHeartbeats 40000000 in
theorem m_value {Z : State} {a0 : Array Value} (hw : ∀ d ∈ tables_1, d.before a0 Z = true) (k : Int32) (h0 : Heap) (n0 : Nat) (Z0 : n0 ≤ h0.size) (O0 : Old Z n0 h0) (cs : Int32) (S_CS : Sta Z Z.heap "java/lang/String" "COMPACT_STRINGS" "Z" (.int cs)) (hcs : ¬ cs = 0) (N : Nat) (hN : (k &&& 3).toInt = (N : Int)) (hN3 : N ≤ 3) : ∀ l, DoesH l Z consts_1 (⟨"com/example/vipool/vipool/http/HttpHeadSizePinLaw", "value", "(I)Ljava/lang/String;"⟩ : MethodName) method_5_code 1 (some (.object "java/lang/String")) ({ frames := 5, cells := 6, slots := 15, locals := 81 } : Room) n0 #[(.int k)] h0 (fun v h => ∃ (s b : Addr) (g : Nat → Int32), v = some (.ref s) ∧ Keep h0 h [] ∧ (∀ i, nar .byte (g i) = g i) ∧ Exa Z h s "java/lang/String" ∧ Fld Z h s "java/lang/String" "value" "[B" (.ref b) ∧ Fld Z h s "java/lang/String" "coder" "B" (.int 0) ∧ Ari Z h b .byte N g) := by
  intro l
  refine DoesH.of_wp (plainFor_of_name pn_4) (Ls := #[.val (.int k)]) (fun m => by first | (simp [entryFrame, mkF, argsToLocals, Value.category]; done) | rfl | (rcases ref_cases hfv with rfl | ⟨_, rfl⟩ <;> rfl)) ?_
  intro C vm0 Hd0
  have K0 := Keep.refl h0 []
  refine WP.iloadN (pc' := 1) d_method_5_0 rfl rfl ?_
  refine WP.iconst (pc' := 2) d_method_5_1 rfl (z := 3) rfl ?_
  refine WP.iand (pc' := 3) d_method_5_2 rfl ?_
  refine WP.iloadN (pc' := 4) d_method_5_3 rfl rfl ?_
  refine WP.iconst (pc' := 5) d_method_5_4 rfl (z := 2) rfl ?_
  refine WP.iushr (pc' := 6) d_method_5_5 rfl ?_
  refine WP.sipush (pc' := 9) d_method_5_6 rfl (z := 255) rfl ?_
  refine WP.iand (pc' := 10) d_method_5_9 rfl ?_
  refine WP.i2c (pc' := 11) d_method_5_10 rfl ?_
  refine WP.iloadN (pc' := 12) d_method_5_11 rfl rfl ?_
  refine WP.bipush (pc' := 14) d_method_5_12 rfl (z := 10) rfl ?_
  refine WP.iushr (pc' := 15) d_method_5_14 rfl ?_
  refine WP.sipush (pc' := 18) d_method_5_15 rfl (z := 255) rfl ?_
  refine WP.iand (pc' := 19) d_method_5_18 rfl ?_
  refine WP.i2c (pc' := 20) d_method_5_19 rfl ?_
  refine WP.iloadN (pc' := 21) d_method_5_20 rfl rfl ?_
  refine WP.bipush (pc' := 23) d_method_5_21 rfl (z := 18) rfl ?_
  refine WP.iushr (pc' := 24) d_method_5_23 rfl ?_
  refine WP.sipush (pc' := 27) d_method_5_24 rfl (z := 255) rfl ?_
  refine WP.iand (pc' := 28) d_method_5_27 rfl ?_
  refine WP.i2c (pc' := 29) d_method_5_28 rfl ?_
  refine WP.callSH (argsL := [(.int (k &&& (3 : Int32))), (.int ((((k.toUInt32 >>> ((2 : Int32) &&& 31).toUInt32).toInt32) &&& (255 : Int32)).toUInt32.toUInt16.toUInt32.toInt32)), (.int ((((k.toUInt32 >>> ((10 : Int32) &&& 31).toUInt32).toInt32) &&& (255 : Int32)).toUInt32.toUInt16.toUInt32.toInt32)), (.int ((((k.toUInt32 >>> ((18 : Int32) &&& 31).toUInt32).toInt32) &&& (255 : Int32)).toUInt32.toUInt16.toUInt32.toInt32))]) (rest := []) (wd := 0) (cl' := 6) (sl' := 15) (pc' := 32) d_method_5_29 rfl (wd7 hw) (wd8 hw) (wd2 hw) (wd9 hw) (by decide) (hELw hw) Hd0 (m_str hw (k &&& (3 : Int32)) ((((k.toUInt32 >>> ((2 : Int32) &&& 31).toUInt32).toInt32) &&& (255 : Int32)).toUInt32.toUInt16.toUInt32.toInt32) ((((k.toUInt32 >>> ((10 : Int32) &&& 31).toUInt32).toInt32) &&& (255 : Int32)).toUInt32.toUInt16.toUInt32.toInt32) ((((k.toUInt32 >>> ((18 : Int32) &&& 31).toUInt32).toInt32) &&& (255 : Int32)).toUInt32.toUInt16.toUInt32.toInt32) h0 n0 Z0 O0 cs S_CS hcs N hN hN3 (i2c_b8 _) (i2c_b8 _) (i2c_b8 _)) pd_15 rfl rfl rfl (Nat.le_of_eq rfl) (by decide) (by decide) rfl rfl (by decide) (by decide) ?_
  rintro v vm1 h1 ⟨s1, c1, rfl, K1, E1, Fv1, Fc1, B1⟩ Hd1 Cr1
  have O2 := O0.keep K1 all0
  have K3 := K0.trans K1 all0
  have Z4 : n0 ≤ h1.size := Nat.le_trans Z0 K1.1
  refine WP.castS (st' := [(.ref s1)]) rfl ?_
  refine WP.aretH d_method_5_32 rfl rfl rfl (hELw hw) Hd1 (by decide) (by decide) ⟨_, _, (fun i => cv (ch3 ((((k.toUInt32 >>> ((2 : Int32) &&& 31).toUInt32).toInt32) &&& (255 : Int32)).toUInt32.toUInt16.toUInt32.toInt32) ((((k.toUInt32 >>> ((10 : Int32) &&& 31).toUInt32).toInt32) &&& (255 : Int32)).toUInt32.toUInt16.toUInt32.toInt32) ((((k.toUInt32 >>> ((18 : Int32) &&& 31).toUInt32).toInt32) &&& (255 : Int32)).toUInt32.toUInt16.toUInt32.toInt32) i)), rfl, K3, (fun _ => cv_cv _), E1, Fv1, Fc1, B1⟩
theorem d_method_7_0 : decode method_7_code 0 = .ok (.iload_n 0, 1) := by decide +kernel
theorem d_method_7_1 : decode method_7_code 1 = .ok (.iconst 3, 1) := by decide +kernel
theorem d_method_7_2 : decode method_7_code 2 = .ok (.iand, 1) := by decide +kernel
theorem d_method_7_3 : decode method_7_code 3 = .ok (.istore_n 2, 1) := by decide +kernel
theorem d_method_7_4 : decode method_7_code 4 = .ok (.iload_n 2, 1) := by decide +kernel
theorem d_method_7_5 : decode method_7_code 5 = .ok (.iload_n 1, 1) := by decide +kernel
theorem d_method_7_6 : decode method_7_code 6 = .ok (.iconst 3, 1) := by decide +kernel
theorem d_method_7_7 : decode method_7_code 7 = .ok (.iand, 1) := by decide +kernel
theorem d_method_7_8 : decode method_7_code 8 = .ok (.if_icmp .eq 5, 3) := by decide +kernel
theorem d_method_7_13 : decode method_7_code 13 = .ok (.iload_n 2, 1) := by decide +kernel
theorem d_method_7_14 : decode method_7_code 14 = .ok (.iconst 1, 1) := by decide +kernel
theorem d_method_7_15 : decode method_7_code 15 = .ok (.if_icmp .lt 16, 3) := by decide +kernel
theorem d_method_7_31 : decode method_7_code 31 = .ok (.iconst 1, 1) := by decide +kernel
theorem d_method_7_32 : decode method_7_code 32 = .ok (.goto 4, 3) := by decide +kernel
theorem d_method_7_36 : decode method_7_code 36 = .ok (.istore_n 3, 1) := by decide +kernel
theorem d_method_7_37 : decode method_7_code 37 = .ok (.iload_n 2, 1) := by decide +kernel
theorem d_method_7_38 : decode method_7_code 38 = .ok (.iconst 2, 1) := by decide +kernel
theorem d_method_7_39 : decode method_7_code 39 = .ok (.if_icmp .lt 16, 3) := by decide +kernel
theorem d_method_7_55 : decode method_7_code 55 = .ok (.iconst 1, 1) := by decide +kernel
theorem d_method_7_56 : decode method_7_code 56 = .ok (.goto 4, 3) := by decide +kernel
theorem d_method_7_60 : decode method_7_code 60 = .ok (.istore 4, 2) := by decide +kernel
theorem d_method_7_62 : decode method_7_code 62 = .ok (.iload_n 2, 1) := by decide +kernel
theorem d_method_7_63 : decode method_7_code 63 = .ok (.iconst 3, 1) := by decide +kernel
theorem d_method_7_64 : decode method_7_code 64 = .ok (.if_icmp .lt 18, 3) := by decide +kernel
theorem d_method_7_82 : decode method_7_code 82 = .ok (.iconst 1, 1) := by decide +kernel
theorem d_method_7_83 : decode method_7_code 83 = .ok (.goto 4, 3) := by decide +kernel
theorem d_method_7_87 : decode method_7_code 87 = .ok (.istore 5, 2) := by decide +kernel
theorem d_method_7_89 : decode method_7_code 89 = .ok (.iload_n 3, 1) := by decide +kernel
theorem d_method_7_90 : decode method_7_code 90 = .ok (.ifCond .eq 17, 3) := by decide +kernel
theorem d_method_7_93 : decode method_7_code 93 = .ok (.iload 4, 2) := by decide +kernel
theorem d_method_7_95 : decode method_7_code 95 = .ok (.ifCond .eq 12, 3) := by decide +kernel
theorem d_method_7_98 : decode method_7_code 98 = .ok (.iload 5, 2) := by decide +kernel
theorem d_method_7_100 : decode method_7_code 100 = .ok (.ifCond .eq 7, 3) := by decide +kernel
theorem d_method_7_103 : decode method_7_code 103 = .ok (.iconst 1, 1) := by decide +kernel
theorem d_method_7_104 : decode method_7_code 104 = .ok (.goto 4, 3) := by decide +kernel
theorem d_method_7_108 : decode method_7_code 108 = .ok (.ireturn, 1) := by decide +kernel
theorem d_method_7_67 : decode method_7_code 67 = .ok (.iload_n 0, 1) := by decide +kernel
theorem d_method_7_68 : decode method_7_code 68 = .ok (.bipush 7, 2) := by decide +kernel
theorem d_method_7_70 : decode method_7_code 70 = .ok (.iushr, 1) := by decide +kernel
theorem d_method_7_71 : decode method_7_code 71 = .ok (.iconst 1, 1) := by decide +kernel
theorem d_method_7_72 : decode method_7_code 72 = .ok (.iand, 1) := by decide +kernel
theorem d_method_7_73 : decode method_7_code 73 = .ok (.iload_n 1, 1) := by decide +kernel
theorem d_method_7_74 : decode method_7_code 74 = .ok (.bipush 7, 2) := by decide +kernel
theorem d_method_7_76 : decode method_7_code 76 = .ok (.iushr, 1) := by decide +kernel
theorem d_method_7_77 : decode method_7_code 77 = .ok (.iconst 1, 1) := by decide +kernel
theorem d_method_7_78 : decode method_7_code 78 = .ok (.iand, 1) := by decide +kernel
theorem d_method_7_79 : decode method_7_code 79 = .ok (.if_icmp .ne 7, 3) := by decide +kernel
theorem d_method_7_86 : decode method_7_code 86 = .ok (.iconst 0, 1) := by decide +kernel
theorem d_method_7_107 : decode method_7_code 107 = .ok (.iconst 0, 1) := by decide +kernel
theorem d_method_7_42 : decode method_7_code 42 = .ok (.iload_n 0, 1) := by decide +kernel
theorem d_method_7_43 : decode method_7_code 43 = .ok (.iconst 5, 1) := by decide +kernel
theorem d_method_7_44 : decode method_7_code 44 = .ok (.iushr, 1) := by decide +kernel
theorem d_method_7_45 : decode method_7_code 45 = .ok (.iconst 1, 1) := by decide +kernel
theorem d_method_7_46 : decode method_7_code 46 = .ok (.iand, 1) := by decide +kernel
theorem d_method_7_47 : decode method_7_code 47 = .ok (.iload_n 1, 1) := by decide +kernel
theorem d_method_7_48 : decode method_7_code 48 = .ok (.iconst 5, 1) := by decide +kernel
theorem d_method_7_49 : decode method_7_code 49 = .ok (.iushr, 1) := by decide +kernel
theorem d_method_7_50 : decode method_7_code 50 = .ok (.iconst 1, 1) := by decide +kernel
theorem d_method_7_51 : decode method_7_code 51 = .ok (.iand, 1) := by decide +kernel
theorem d_method_7_52 : decode method_7_code 52 = .ok (.if_icmp .ne 7, 3) := by decide +kernel
theorem d_method_7_59 : decode method_7_code 59 = .ok (.iconst 0, 1) := by decide +kernel
theorem d_method_7_18 : decode method_7_code 18 = .ok (.iload_n 0, 1) := by decide +kernel
theorem d_method_7_19 : decode method_7_code 19 = .ok (.iconst 3, 1) := by decide +kernel
theorem d_method_7_20 : decode method_7_code 20 = .ok (.iushr, 1) := by decide +kernel
theorem d_method_7_21 : decode method_7_code 21 = .ok (.iconst 1, 1) := by decide +kernel
theorem d_method_7_22 : decode method_7_code 22 = .ok (.iand, 1) := by decide +kernel
theorem d_method_7_23 : decode method_7_code 23 = .ok (.iload_n 1, 1) := by decide +kernel
theorem d_method_7_24 : decode method_7_code 24 = .ok (.iconst 3, 1) := by decide +kernel
theorem d_method_7_25 : decode method_7_code 25 = .ok (.iushr, 1) := by decide +kernel
theorem d_method_7_26 : decode method_7_code 26 = .ok (.iconst 1, 1) := by decide +kernel
theorem d_method_7_27 : decode method_7_code 27 = .ok (.iand, 1) := by decide +kernel
theorem d_method_7_28 : decode method_7_code 28 = .ok (.if_icmp .ne 7, 3) := by decide +kernel
theorem d_method_7_35 : decode method_7_code 35 = .ok (.iconst 0, 1) := by decide +kernel
theorem d_method_7_11 : decode method_7_code 11 = .ok (.iconst 0, 1) := by decide +kernel
theorem d_method_7_12 : decode method_7_code 12 = .ok (.ireturn, 1) := by decide +kernel
set_option maxRecDepth 65536 in
set_option maxHeartbeats 40000000 in
theorem m_same {Z : State} {a0 : Array Value} (hw : ∀ d ∈ tables_1, d.before a0 Z = true) (k : Int32) (m : Int32) (h0 : Heap) (n0 : Nat)  : ∀ l, Does l Z (⟨"com/example/vipool/vipool/http/HttpHeadSizePinLaw", "same", "(II)Z"⟩ : MethodName) method_7_code 6 (some .boolean) ({ frames := 0, cells := 0, slots := 0, locals := 0 } : Room) n0 #[(.int k), (.int m)] h0 (fun v h => ((v = some (.int 1) ∧ SM k m) ∨ (v = some (.int 0) ∧ ¬ SM k m)) ∧ h = h0) := by
  intro l
  refine Does.of_wp (plainFor_of_name pn_4) (Ls := #[.val (.int k), .val (.int m), .unset, .unset, .unset, .unset]) (fun m => by first | (simp [entryFrame, mkF, argsToLocals, Value.category]; done) | rfl | (rcases ref_cases hfv with rfl | ⟨_, rfl⟩ <;> rfl)) ?_
  intro C
  refine WP.iloadN (pc' := 1) d_method_7_0 rfl rfl ?_
  refine WP.iconst (pc' := 2) d_method_7_1 rfl (z := 3) rfl ?_
  refine WP.iand (pc' := 3) d_method_7_2 rfl ?_
  refine WP.istoreN (pc' := 4) d_method_7_3 rfl (Ls' := #[.val (.int k), .val (.int m), .val (.int (k &&& (3 : Int32))), .unset, .unset, .unset]) rfl ?_
  refine WP.iloadN (pc' := 5) d_method_7_4 rfl rfl ?_
  refine WP.iloadN (pc' := 6) d_method_7_5 rfl rfl ?_
  refine WP.iconst (pc' := 7) d_method_7_6 rfl (z := 3) rfl ?_
  refine WP.iand (pc' := 8) d_method_7_7 rfl ?_
  refine WP.icmp_eq (pc1 := 13) (pc2 := 11) d_method_7_8 (by decide) (by decide) rfl ?_ ?_
  · intro hc8
    refine WP.iloadN (pc' := 14) d_method_7_13 rfl rfl ?_
    refine WP.iconst (pc' := 15) d_method_7_14 rfl (z := 1) rfl ?_
    refine WP.icmp_lt (pc1 := 31) (pc2 := 18) d_method_7_15 (by decide) (by decide) rfl ?_ ?_
    · intro hc15
      refine WP.iconst (pc' := 32) d_method_7_31 rfl (z := 1) rfl ?_
      refine WP.goto (pc' := 36) d_method_7_32 (by decide) (by decide) ?_
      refine WP.istoreN (pc' := 37) d_method_7_36 rfl (Ls' := #[.val (.int k), .val (.int m), .val (.int (k &&& (3 : Int32))), .val (.int (1 : Int32)), .unset, .unset]) rfl ?_
      refine WP.iloadN (pc' := 38) d_method_7_37 rfl rfl ?_
      refine WP.iconst (pc' := 39) d_method_7_38 rfl (z := 2) rfl ?_
      refine WP.icmp_lt (pc1 := 55) (pc2 := 42) d_method_7_39 (by decide) (by decide) rfl ?_ ?_
      · intro hc39
        refine WP.iconst (pc' := 56) d_method_7_55 rfl (z := 1) rfl ?_
        refine WP.goto (pc' := 60) d_method_7_56 (by decide) (by decide) ?_
        refine WP.istore (pc' := 62) d_method_7_60 rfl (Ls' := #[.val (.int k), .val (.int m), .val (.int (k &&& (3 : Int32))), .val (.int (1 : Int32)), .val (.int (1 : Int32)), .unset]) rfl ?_
        refine WP.iloadN (pc' := 63) d_method_7_62 rfl rfl ?_
        refine WP.iconst (pc' := 64) d_method_7_63 rfl (z := 3) rfl ?_
        refine WP.icmp_lt (pc1 := 82) (pc2 := 67) d_method_7_64 (by decide) (by decide) rfl ?_ ?_
        · intro hc64
          refine WP.iconst (pc' := 83) d_method_7_82 rfl (z := 1) rfl ?_
          refine WP.goto (pc' := 87) d_method_7_83 (by decide) (by decide) ?_
          refine WP.istore (pc' := 89) d_method_7_87 rfl (Ls' := #[.val (.int k), .val (.int m), .val (.int (k &&& (3 : Int32))), .val (.int (1 : Int32)), .val (.int (1 : Int32)), .val (.int (1 : Int32))]) rfl ?_
          refine WP.iloadN (pc' := 90) d_method_7_89 rfl rfl ?_
          have hc90 : ¬ (1 : Int32) = (0 : Int32) := by decide
          refine WP.ifc_eq (pc1 := 107) (pc2 := 93) d_method_7_90 (by decide) (by decide) rfl (fun k => absurd k hc90) (fun _ => ?_)
          refine WP.iload (pc' := 95) d_method_7_93 rfl rfl ?_
          have hc95 : ¬ (1 : Int32) = (0 : Int32) := by decide
          refine WP.ifc_eq (pc1 := 107) (pc2 := 98) d_method_7_95 (by decide) (by decide) rfl (fun k => absurd k hc95) (fun _ => ?_)
          refine WP.iload (pc' := 100) d_method_7_98 rfl rfl ?_
          have hc100 : ¬ (1 : Int32) = (0 : Int32) := by decide
          refine WP.ifc_eq (pc1 := 107) (pc2 := 103) d_method_7_100 (by decide) (by decide) rfl (fun k => absurd k hc100) (fun _ => ?_)
          refine WP.iconst (pc' := 104) d_method_7_103 rfl (z := 1) rfl ?_
          refine WP.goto (pc' := 108) d_method_7_104 (by decide) (by decide) ?_
          refine WP.nret (t := .boolean) d_method_7_108 rfl (by simp) rfl (by decide) (by decide) ⟨Or.inl ⟨rfl, hc8, (fun q => absurd hc15 q), (fun q => absurd hc39 q), (fun q => absurd hc64 q)⟩, rfl⟩
        · intro hc64
          refine WP.iloadN (pc' := 68) d_method_7_67 rfl rfl ?_
          refine WP.bipush (pc' := 70) d_method_7_68 rfl (z := 7) rfl ?_
          refine WP.iushr (pc' := 71) d_method_7_70 rfl ?_
          refine WP.iconst (pc' := 72) d_method_7_71 rfl (z := 1) rfl ?_
          refine WP.iand (pc' := 73) d_method_7_72 rfl ?_
          refine WP.iloadN (pc' := 74) d_method_7_73 rfl rfl ?_
          refine WP.bipush (pc' := 76) d_method_7_74 rfl (z := 7) rfl ?_
          refine WP.iushr (pc' := 77) d_method_7_76 rfl ?_
          refine WP.iconst (pc' := 78) d_method_7_77 rfl (z := 1) rfl ?_
          refine WP.iand (pc' := 79) d_method_7_78 rfl ?_
          refine WP.icmp_ne (pc1 := 86) (pc2 := 82) d_method_7_79 (by decide) (by decide) rfl ?_ ?_
          · intro hc79
            refine WP.iconst (pc' := 87) d_method_7_86 rfl (z := 0) rfl ?_
            refine WP.istore (pc' := 89) d_method_7_87 rfl (Ls' := #[.val (.int k), .val (.int m), .val (.int (k &&& (3 : Int32))), .val (.int (1 : Int32)), .val (.int (1 : Int32)), .val (.int (0 : Int32))]) rfl ?_
            refine WP.iloadN (pc' := 90) d_method_7_89 rfl rfl ?_
            have hc90 : ¬ (1 : Int32) = (0 : Int32) := by decide
            refine WP.ifc_eq (pc1 := 107) (pc2 := 93) d_method_7_90 (by decide) (by decide) rfl (fun k => absurd k hc90) (fun _ => ?_)
            refine WP.iload (pc' := 95) d_method_7_93 rfl rfl ?_
            have hc95 : ¬ (1 : Int32) = (0 : Int32) := by decide
            refine WP.ifc_eq (pc1 := 107) (pc2 := 98) d_method_7_95 (by decide) (by decide) rfl (fun k => absurd k hc95) (fun _ => ?_)
            refine WP.iload (pc' := 100) d_method_7_98 rfl rfl ?_
            have hc100 : (0 : Int32) = (0 : Int32) := by decide
            refine WP.ifc_eq (pc1 := 107) (pc2 := 103) d_method_7_100 (by decide) (by decide) rfl (fun _ => ?_) (fun k => absurd hc100 k)
            refine WP.iconst (pc' := 108) d_method_7_107 rfl (z := 0) rfl ?_
            refine WP.nret (t := .boolean) d_method_7_108 rfl (by simp) rfl (by decide) (by decide) ⟨Or.inr ⟨rfl, fun z => hc79 (z.2.2.2 hc64)⟩, rfl⟩
          · intro hc79
            refine WP.iconst (pc' := 83) d_method_7_82 rfl (z := 1) rfl ?_
            refine WP.goto (pc' := 87) d_method_7_83 (by decide) (by decide) ?_
            refine WP.istore (pc' := 89) d_method_7_87 rfl (Ls' := #[.val (.int k), .val (.int m), .val (.int (k &&& (3 : Int32))), .val (.int (1 : Int32)), .val (.int (1 : Int32)), .val (.int (1 : Int32))]) rfl ?_
            refine WP.iloadN (pc' := 90) d_method_7_89 rfl rfl ?_
            have hc90 : ¬ (1 : Int32) = (0 : Int32) := by decide
            refine WP.ifc_eq (pc1 := 107) (pc2 := 93) d_method_7_90 (by decide) (by decide) rfl (fun k => absurd k hc90) (fun _ => ?_)
            refine WP.iload (pc' := 95) d_method_7_93 rfl rfl ?_
            have hc95 : ¬ (1 : Int32) = (0 : Int32) := by decide
            refine WP.ifc_eq (pc1 := 107) (pc2 := 98) d_method_7_95 (by decide) (by decide) rfl (fun k => absurd k hc95) (fun _ => ?_)
            refine WP.iload (pc' := 100) d_method_7_98 rfl rfl ?_
            have hc100 : ¬ (1 : Int32) = (0 : Int32) := by decide
            refine WP.ifc_eq (pc1 := 107) (pc2 := 103) d_method_7_100 (by decide) (by decide) rfl (fun k => absurd k hc100) (fun _ => ?_)
            refine WP.iconst (pc' := 104) d_method_7_103 rfl (z := 1) rfl ?_
            refine WP.goto (pc' := 108) d_method_7_104 (by decide) (by decide) ?_
            refine WP.nret (t := .boolean) d_method_7_108 rfl (by simp) rfl (by decide) (by decide) ⟨Or.inl ⟨rfl, hc8, (fun q => absurd hc15 q), (fun q => absurd hc39 q), (fun _ => hc79)⟩, rfl⟩
      · intro hc39
        refine WP.iloadN (pc' := 43) d_method_7_42 rfl rfl ?_
        refine WP.iconst (pc' := 44) d_method_7_43 rfl (z := 5) rfl ?_
        refine WP.iushr (pc' := 45) d_method_7_44 rfl ?_
        refine WP.iconst (pc' := 46) d_method_7_45 rfl (z := 1) rfl ?_
        refine WP.iand (pc' := 47) d_method_7_46 rfl ?_
        refine WP.iloadN (pc' := 48) d_method_7_47 rfl rfl ?_
        refine WP.iconst (pc' := 49) d_method_7_48 rfl (z := 5) rfl ?_
        refine WP.iushr (pc' := 50) d_method_7_49 rfl ?_
        refine WP.iconst (pc' := 51) d_method_7_50 rfl (z := 1) rfl ?_
        refine WP.iand (pc' := 52) d_method_7_51 rfl ?_
        refine WP.icmp_ne (pc1 := 59) (pc2 := 55) d_method_7_52 (by decide) (by decide) rfl ?_ ?_
        · intro hc52
          refine WP.iconst (pc' := 60) d_method_7_59 rfl (z := 0) rfl ?_
          refine WP.istore (pc' := 62) d_method_7_60 rfl (Ls' := #[.val (.int k), .val (.int m), .val (.int (k &&& (3 : Int32))), .val (.int (1 : Int32)), .val (.int (0 : Int32)), .unset]) rfl ?_
          refine WP.iloadN (pc' := 63) d_method_7_62 rfl rfl ?_
          refine WP.iconst (pc' := 64) d_method_7_63 rfl (z := 3) rfl ?_
          refine WP.icmp_lt (pc1 := 82) (pc2 := 67) d_method_7_64 (by decide) (by decide) rfl ?_ ?_
          · intro hc64
            refine WP.iconst (pc' := 83) d_method_7_82 rfl (z := 1) rfl ?_
            refine WP.goto (pc' := 87) d_method_7_83 (by decide) (by decide) ?_
            refine WP.istore (pc' := 89) d_method_7_87 rfl (Ls' := #[.val (.int k), .val (.int m), .val (.int (k &&& (3 : Int32))), .val (.int (1 : Int32)), .val (.int (0 : Int32)), .val (.int (1 : Int32))]) rfl ?_
            refine WP.iloadN (pc' := 90) d_method_7_89 rfl rfl ?_
            have hc90 : ¬ (1 : Int32) = (0 : Int32) := by decide
            refine WP.ifc_eq (pc1 := 107) (pc2 := 93) d_method_7_90 (by decide) (by decide) rfl (fun k => absurd k hc90) (fun _ => ?_)
            refine WP.iload (pc' := 95) d_method_7_93 rfl rfl ?_
            have hc95 : (0 : Int32) = (0 : Int32) := by decide
            refine WP.ifc_eq (pc1 := 107) (pc2 := 98) d_method_7_95 (by decide) (by decide) rfl (fun _ => ?_) (fun k => absurd hc95 k)
            refine WP.iconst (pc' := 108) d_method_7_107 rfl (z := 0) rfl ?_
            refine WP.nret (t := .boolean) d_method_7_108 rfl (by simp) rfl (by decide) (by decide) ⟨Or.inr ⟨rfl, fun z => hc52 (z.2.2.1 hc39)⟩, rfl⟩
          · intro hc64
            refine WP.iloadN (pc' := 68) d_method_7_67 rfl rfl ?_
            refine WP.bipush (pc' := 70) d_method_7_68 rfl (z := 7) rfl ?_
            refine WP.iushr (pc' := 71) d_method_7_70 rfl ?_
            refine WP.iconst (pc' := 72) d_method_7_71 rfl (z := 1) rfl ?_
            refine WP.iand (pc' := 73) d_method_7_72 rfl ?_
            refine WP.iloadN (pc' := 74) d_method_7_73 rfl rfl ?_
            refine WP.bipush (pc' := 76) d_method_7_74 rfl (z := 7) rfl ?_
            refine WP.iushr (pc' := 77) d_method_7_76 rfl ?_
            refine WP.iconst (pc' := 78) d_method_7_77 rfl (z := 1) rfl ?_
            refine WP.iand (pc' := 79) d_method_7_78 rfl ?_
            refine WP.icmp_ne (pc1 := 86) (pc2 := 82) d_method_7_79 (by decide) (by decide) rfl ?_ ?_
            · intro hc79
              refine WP.iconst (pc' := 87) d_method_7_86 rfl (z := 0) rfl ?_
              refine WP.istore (pc' := 89) d_method_7_87 rfl (Ls' := #[.val (.int k), .val (.int m), .val (.int (k &&& (3 : Int32))), .val (.int (1 : Int32)), .val (.int (0 : Int32)), .val (.int (0 : Int32))]) rfl ?_
              refine WP.iloadN (pc' := 90) d_method_7_89 rfl rfl ?_
              have hc90 : ¬ (1 : Int32) = (0 : Int32) := by decide
              refine WP.ifc_eq (pc1 := 107) (pc2 := 93) d_method_7_90 (by decide) (by decide) rfl (fun k => absurd k hc90) (fun _ => ?_)
              refine WP.iload (pc' := 95) d_method_7_93 rfl rfl ?_
              have hc95 : (0 : Int32) = (0 : Int32) := by decide
              refine WP.ifc_eq (pc1 := 107) (pc2 := 98) d_method_7_95 (by decide) (by decide) rfl (fun _ => ?_) (fun k => absurd hc95 k)
              refine WP.iconst (pc' := 108) d_method_7_107 rfl (z := 0) rfl ?_
              refine WP.nret (t := .boolean) d_method_7_108 rfl (by simp) rfl (by decide) (by decide) ⟨Or.inr ⟨rfl, fun z => hc52 (z.2.2.1 hc39)⟩, rfl⟩
            · intro hc79
              refine WP.iconst (pc' := 83) d_method_7_82 rfl (z := 1) rfl ?_
              refine WP.goto (pc' := 87) d_method_7_83 (by decide) (by decide) ?_
              refine WP.istore (pc' := 89) d_method_7_87 rfl (Ls' := #[.val (.int k), .val (.int m), .val (.int (k &&& (3 : Int32))), .val (.int (1 : Int32)), .val (.int (0 : Int32)), .val (.int (1 : Int32))]) rfl ?_
              refine WP.iloadN (pc' := 90) d_method_7_89 rfl rfl ?_
              have hc90 : ¬ (1 : Int32) = (0 : Int32) := by decide
              refine WP.ifc_eq (pc1 := 107) (pc2 := 93) d_method_7_90 (by decide) (by decide) rfl (fun k => absurd k hc90) (fun _ => ?_)
              refine WP.iload (pc' := 95) d_method_7_93 rfl rfl ?_
              have hc95 : (0 : Int32) = (0 : Int32) := by decide
              refine WP.ifc_eq (pc1 := 107) (pc2 := 98) d_method_7_95 (by decide) (by decide) rfl (fun _ => ?_) (fun k => absurd hc95 k)
              refine WP.iconst (pc' := 108) d_method_7_107 rfl (z := 0) rfl ?_
              refine WP.nret (t := .boolean) d_method_7_108 rfl (by simp) rfl (by decide) (by decide) ⟨Or.inr ⟨rfl, fun z => hc52 (z.2.2.1 hc39)⟩, rfl⟩
        · intro hc52
          refine WP.iconst (pc' := 56) d_method_7_55 rfl (z := 1) rfl ?_
          refine WP.goto (pc' := 60) d_method_7_56 (by decide) (by decide) ?_
          refine WP.istore (pc' := 62) d_method_7_60 rfl (Ls' := #[.val (.int k), .val (.int m), .val (.int (k &&& (3 : Int32))), .val (.int (1 : Int32)), .val (.int (1 : Int32)), .unset]) rfl ?_
          refine WP.iloadN (pc' := 63) d_method_7_62 rfl rfl ?_
          refine WP.iconst (pc' := 64) d_method_7_63 rfl (z := 3) rfl ?_
          refine WP.icmp_lt (pc1 := 82) (pc2 := 67) d_method_7_64 (by decide) (by decide) rfl ?_ ?_
          · intro hc64
            refine WP.iconst (pc' := 83) d_method_7_82 rfl (z := 1) rfl ?_
            refine WP.goto (pc' := 87) d_method_7_83 (by decide) (by decide) ?_
            refine WP.istore (pc' := 89) d_method_7_87 rfl (Ls' := #[.val (.int k), .val (.int m), .val (.int (k &&& (3 : Int32))), .val (.int (1 : Int32)), .val (.int (1 : Int32)), .val (.int (1 : Int32))]) rfl ?_
            refine WP.iloadN (pc' := 90) d_method_7_89 rfl rfl ?_
            have hc90 : ¬ (1 : Int32) = (0 : Int32) := by decide
            refine WP.ifc_eq (pc1 := 107) (pc2 := 93) d_method_7_90 (by decide) (by decide) rfl (fun k => absurd k hc90) (fun _ => ?_)
            refine WP.iload (pc' := 95) d_method_7_93 rfl rfl ?_
            have hc95 : ¬ (1 : Int32) = (0 : Int32) := by decide
            refine WP.ifc_eq (pc1 := 107) (pc2 := 98) d_method_7_95 (by decide) (by decide) rfl (fun k => absurd k hc95) (fun _ => ?_)
            refine WP.iload (pc' := 100) d_method_7_98 rfl rfl ?_
            have hc100 : ¬ (1 : Int32) = (0 : Int32) := by decide
            refine WP.ifc_eq (pc1 := 107) (pc2 := 103) d_method_7_100 (by decide) (by decide) rfl (fun k => absurd k hc100) (fun _ => ?_)
            refine WP.iconst (pc' := 104) d_method_7_103 rfl (z := 1) rfl ?_
            refine WP.goto (pc' := 108) d_method_7_104 (by decide) (by decide) ?_
            refine WP.nret (t := .boolean) d_method_7_108 rfl (by simp) rfl (by decide) (by decide) ⟨Or.inl ⟨rfl, hc8, (fun q => absurd hc15 q), (fun _ => hc52), (fun q => absurd hc64 q)⟩, rfl⟩
          · intro hc64
            refine WP.iloadN (pc' := 68) d_method_7_67 rfl rfl ?_
            refine WP.bipush (pc' := 70) d_method_7_68 rfl (z := 7) rfl ?_
            refine WP.iushr (pc' := 71) d_method_7_70 rfl ?_
            refine WP.iconst (pc' := 72) d_method_7_71 rfl (z := 1) rfl ?_
            refine WP.iand (pc' := 73) d_method_7_72 rfl ?_
            refine WP.iloadN (pc' := 74) d_method_7_73 rfl rfl ?_
            refine WP.bipush (pc' := 76) d_method_7_74 rfl (z := 7) rfl ?_
            refine WP.iushr (pc' := 77) d_method_7_76 rfl ?_
            refine WP.iconst (pc' := 78) d_method_7_77 rfl (z := 1) rfl ?_
            refine WP.iand (pc' := 79) d_method_7_78 rfl ?_
            refine WP.icmp_ne (pc1 := 86) (pc2 := 82) d_method_7_79 (by decide) (by decide) rfl ?_ ?_
            · intro hc79
              refine WP.iconst (pc' := 87) d_method_7_86 rfl (z := 0) rfl ?_
              refine WP.istore (pc' := 89) d_method_7_87 rfl (Ls' := #[.val (.int k), .val (.int m), .val (.int (k &&& (3 : Int32))), .val (.int (1 : Int32)), .val (.int (1 : Int32)), .val (.int (0 : Int32))]) rfl ?_
              refine WP.iloadN (pc' := 90) d_method_7_89 rfl rfl ?_
              have hc90 : ¬ (1 : Int32) = (0 : Int32) := by decide
              refine WP.ifc_eq (pc1 := 107) (pc2 := 93) d_method_7_90 (by decide) (by decide) rfl (fun k => absurd k hc90) (fun _ => ?_)
              refine WP.iload (pc' := 95) d_method_7_93 rfl rfl ?_
              have hc95 : ¬ (1 : Int32) = (0 : Int32) := by decide
              refine WP.ifc_eq (pc1 := 107) (pc2 := 98) d_method_7_95 (by decide) (by decide) rfl (fun k => absurd k hc95) (fun _ => ?_)
              refine WP.iload (pc' := 100) d_method_7_98 rfl rfl ?_
              have hc100 : (0 : Int32) = (0 : Int32) := by decide
              refine WP.ifc_eq (pc1 := 107) (pc2 := 103) d_method_7_100 (by decide) (by decide) rfl (fun _ => ?_) (fun k => absurd hc100 k)
              refine WP.iconst (pc' := 108) d_method_7_107 rfl (z := 0) rfl ?_
              refine WP.nret (t := .boolean) d_method_7_108 rfl (by simp) rfl (by decide) (by decide) ⟨Or.inr ⟨rfl, fun z => hc79 (z.2.2.2 hc64)⟩, rfl⟩
            · intro hc79
              refine WP.iconst (pc' := 83) d_method_7_82 rfl (z := 1) rfl ?_
              refine WP.goto (pc' := 87) d_method_7_83 (by decide) (by decide) ?_
              refine WP.istore (pc' := 89) d_method_7_87 rfl (Ls' := #[.val (.int k), .val (.int m), .val (.int (k &&& (3 : Int32))), .val (.int (1 : Int32)), .val (.int (1 : Int32)), .val (.int (1 : Int32))]) rfl ?_
              refine WP.iloadN (pc' := 90) d_method_7_89 rfl rfl ?_
              have hc90 : ¬ (1 : Int32) = (0 : Int32) := by decide
              refine WP.ifc_eq (pc1 := 107) (pc2 := 93) d_method_7_90 (by decide) (by decide) rfl (fun k => absurd k hc90) (fun _ => ?_)
              refine WP.iload (pc' := 95) d_method_7_93 rfl rfl ?_
              have hc95 : ¬ (1 : Int32) = (0 : Int32) := by decide
              refine WP.ifc_eq (pc1 := 107) (pc2 := 98) d_method_7_95 (by decide) (by decide) rfl (fun k => absurd k hc95) (fun _ => ?_)
              refine WP.iload (pc' := 100) d_method_7_98 rfl rfl ?_
              have hc100 : ¬ (1 : Int32) = (0 : Int32) := by decide
              refine WP.ifc_eq (pc1 := 107) (pc2 := 103) d_method_7_100 (by decide) (by decide) rfl (fun k => absurd k hc100) (fun _ => ?_)
              refine WP.iconst (pc' := 104) d_method_7_103 rfl (z := 1) rfl ?_
              refine WP.goto (pc' := 108) d_method_7_104 (by decide) (by decide) ?_
              refine WP.nret (t := .boolean) d_method_7_108 rfl (by simp) rfl (by decide) (by decide) ⟨Or.inl ⟨rfl, hc8, (fun q => absurd hc15 q), (fun _ => hc52), (fun _ => hc79)⟩, rfl⟩
    · intro hc15
      refine WP.iloadN (pc' := 19) d_method_7_18 rfl rfl ?_
      refine WP.iconst (pc' := 20) d_method_7_19 rfl (z := 3) rfl ?_
      refine WP.iushr (pc' := 21) d_method_7_20 rfl ?_
      refine WP.iconst (pc' := 22) d_method_7_21 rfl (z := 1) rfl ?_
      refine WP.iand (pc' := 23) d_method_7_22 rfl ?_
      refine WP.iloadN (pc' := 24) d_method_7_23 rfl rfl ?_
      refine WP.iconst (pc' := 25) d_method_7_24 rfl (z := 3) rfl ?_
      refine WP.iushr (pc' := 26) d_method_7_25 rfl ?_
      refine WP.iconst (pc' := 27) d_method_7_26 rfl (z := 1) rfl ?_
      refine WP.iand (pc' := 28) d_method_7_27 rfl ?_
      refine WP.icmp_ne (pc1 := 35) (pc2 := 31) d_method_7_28 (by decide) (by decide) rfl ?_ ?_
      · intro hc28
        refine WP.iconst (pc' := 36) d_method_7_35 rfl (z := 0) rfl ?_
        refine WP.istoreN (pc' := 37) d_method_7_36 rfl (Ls' := #[.val (.int k), .val (.int m), .val (.int (k &&& (3 : Int32))), .val (.int (0 : Int32)), .unset, .unset]) rfl ?_
        refine WP.iloadN (pc' := 38) d_method_7_37 rfl rfl ?_
        refine WP.iconst (pc' := 39) d_method_7_38 rfl (z := 2) rfl ?_
        refine WP.icmp_lt (pc1 := 55) (pc2 := 42) d_method_7_39 (by decide) (by decide) rfl ?_ ?_
        · intro hc39
          refine WP.iconst (pc' := 56) d_method_7_55 rfl (z := 1) rfl ?_
          refine WP.goto (pc' := 60) d_method_7_56 (by decide) (by decide) ?_
          refine WP.istore (pc' := 62) d_method_7_60 rfl (Ls' := #[.val (.int k), .val (.int m), .val (.int (k &&& (3 : Int32))), .val (.int (0 : Int32)), .val (.int (1 : Int32)), .unset]) rfl ?_
          refine WP.iloadN (pc' := 63) d_method_7_62 rfl rfl ?_
          refine WP.iconst (pc' := 64) d_method_7_63 rfl (z := 3) rfl ?_
          refine WP.icmp_lt (pc1 := 82) (pc2 := 67) d_method_7_64 (by decide) (by decide) rfl ?_ ?_
          · intro hc64
            refine WP.iconst (pc' := 83) d_method_7_82 rfl (z := 1) rfl ?_
            refine WP.goto (pc' := 87) d_method_7_83 (by decide) (by decide) ?_
            refine WP.istore (pc' := 89) d_method_7_87 rfl (Ls' := #[.val (.int k), .val (.int m), .val (.int (k &&& (3 : Int32))), .val (.int (0 : Int32)), .val (.int (1 : Int32)), .val (.int (1 : Int32))]) rfl ?_
            refine WP.iloadN (pc' := 90) d_method_7_89 rfl rfl ?_
            have hc90 : (0 : Int32) = (0 : Int32) := by decide
            refine WP.ifc_eq (pc1 := 107) (pc2 := 93) d_method_7_90 (by decide) (by decide) rfl (fun _ => ?_) (fun k => absurd hc90 k)
            refine WP.iconst (pc' := 108) d_method_7_107 rfl (z := 0) rfl ?_
            refine WP.nret (t := .boolean) d_method_7_108 rfl (by simp) rfl (by decide) (by decide) ⟨Or.inr ⟨rfl, fun z => hc28 (z.2.1 hc15)⟩, rfl⟩
          · intro hc64
            refine WP.iloadN (pc' := 68) d_method_7_67 rfl rfl ?_
            refine WP.bipush (pc' := 70) d_method_7_68 rfl (z := 7) rfl ?_
            refine WP.iushr (pc' := 71) d_method_7_70 rfl ?_
            refine WP.iconst (pc' := 72) d_method_7_71 rfl (z := 1) rfl ?_
            refine WP.iand (pc' := 73) d_method_7_72 rfl ?_
            refine WP.iloadN (pc' := 74) d_method_7_73 rfl rfl ?_
            refine WP.bipush (pc' := 76) d_method_7_74 rfl (z := 7) rfl ?_
            refine WP.iushr (pc' := 77) d_method_7_76 rfl ?_
            refine WP.iconst (pc' := 78) d_method_7_77 rfl (z := 1) rfl ?_
            refine WP.iand (pc' := 79) d_method_7_78 rfl ?_
            refine WP.icmp_ne (pc1 := 86) (pc2 := 82) d_method_7_79 (by decide) (by decide) rfl ?_ ?_
            · intro hc79
              refine WP.iconst (pc' := 87) d_method_7_86 rfl (z := 0) rfl ?_
              refine WP.istore (pc' := 89) d_method_7_87 rfl (Ls' := #[.val (.int k), .val (.int m), .val (.int (k &&& (3 : Int32))), .val (.int (0 : Int32)), .val (.int (1 : Int32)), .val (.int (0 : Int32))]) rfl ?_
              refine WP.iloadN (pc' := 90) d_method_7_89 rfl rfl ?_
              have hc90 : (0 : Int32) = (0 : Int32) := by decide
              refine WP.ifc_eq (pc1 := 107) (pc2 := 93) d_method_7_90 (by decide) (by decide) rfl (fun _ => ?_) (fun k => absurd hc90 k)
              refine WP.iconst (pc' := 108) d_method_7_107 rfl (z := 0) rfl ?_
              refine WP.nret (t := .boolean) d_method_7_108 rfl (by simp) rfl (by decide) (by decide) ⟨Or.inr ⟨rfl, fun z => hc28 (z.2.1 hc15)⟩, rfl⟩
            · intro hc79
              refine WP.iconst (pc' := 83) d_method_7_82 rfl (z := 1) rfl ?_
              refine WP.goto (pc' := 87) d_method_7_83 (by decide) (by decide) ?_
              refine WP.istore (pc' := 89) d_method_7_87 rfl (Ls' := #[.val (.int k), .val (.int m), .val (.int (k &&& (3 : Int32))), .val (.int (0 : Int32)), .val (.int (1 : Int32)), .val (.int (1 : Int32))]) rfl ?_
              refine WP.iloadN (pc' := 90) d_method_7_89 rfl rfl ?_
              have hc90 : (0 : Int32) = (0 : Int32) := by decide
              refine WP.ifc_eq (pc1 := 107) (pc2 := 93) d_method_7_90 (by decide) (by decide) rfl (fun _ => ?_) (fun k => absurd hc90 k)
              refine WP.iconst (pc' := 108) d_method_7_107 rfl (z := 0) rfl ?_
              refine WP.nret (t := .boolean) d_method_7_108 rfl (by simp) rfl (by decide) (by decide) ⟨Or.inr ⟨rfl, fun z => hc28 (z.2.1 hc15)⟩, rfl⟩
        · intro hc39
          refine WP.iloadN (pc' := 43) d_method_7_42 rfl rfl ?_
          refine WP.iconst (pc' := 44) d_method_7_43 rfl (z := 5) rfl ?_
          refine WP.iushr (pc' := 45) d_method_7_44 rfl ?_
          refine WP.iconst (pc' := 46) d_method_7_45 rfl (z := 1) rfl ?_
          refine WP.iand (pc' := 47) d_method_7_46 rfl ?_
          refine WP.iloadN (pc' := 48) d_method_7_47 rfl rfl ?_
          refine WP.iconst (pc' := 49) d_method_7_48 rfl (z := 5) rfl ?_
          refine WP.iushr (pc' := 50) d_method_7_49 rfl ?_
          refine WP.iconst (pc' := 51) d_method_7_50 rfl (z := 1) rfl ?_
          refine WP.iand (pc' := 52) d_method_7_51 rfl ?_
          refine WP.icmp_ne (pc1 := 59) (pc2 := 55) d_method_7_52 (by decide) (by decide) rfl ?_ ?_
          · intro hc52
            refine WP.iconst (pc' := 60) d_method_7_59 rfl (z := 0) rfl ?_
            refine WP.istore (pc' := 62) d_method_7_60 rfl (Ls' := #[.val (.int k), .val (.int m), .val (.int (k &&& (3 : Int32))), .val (.int (0 : Int32)), .val (.int (0 : Int32)), .unset]) rfl ?_
            refine WP.iloadN (pc' := 63) d_method_7_62 rfl rfl ?_
            refine WP.iconst (pc' := 64) d_method_7_63 rfl (z := 3) rfl ?_
            refine WP.icmp_lt (pc1 := 82) (pc2 := 67) d_method_7_64 (by decide) (by decide) rfl ?_ ?_
            · intro hc64
              refine WP.iconst (pc' := 83) d_method_7_82 rfl (z := 1) rfl ?_
              refine WP.goto (pc' := 87) d_method_7_83 (by decide) (by decide) ?_
              refine WP.istore (pc' := 89) d_method_7_87 rfl (Ls' := #[.val (.int k), .val (.int m), .val (.int (k &&& (3 : Int32))), .val (.int (0 : Int32)), .val (.int (0 : Int32)), .val (.int (1 : Int32))]) rfl ?_
              refine WP.iloadN (pc' := 90) d_method_7_89 rfl rfl ?_
              have hc90 : (0 : Int32) = (0 : Int32) := by decide
              refine WP.ifc_eq (pc1 := 107) (pc2 := 93) d_method_7_90 (by decide) (by decide) rfl (fun _ => ?_) (fun k => absurd hc90 k)
              refine WP.iconst (pc' := 108) d_method_7_107 rfl (z := 0) rfl ?_
              refine WP.nret (t := .boolean) d_method_7_108 rfl (by simp) rfl (by decide) (by decide) ⟨Or.inr ⟨rfl, fun z => hc28 (z.2.1 hc15)⟩, rfl⟩
            · intro hc64
              refine WP.iloadN (pc' := 68) d_method_7_67 rfl rfl ?_
              refine WP.bipush (pc' := 70) d_method_7_68 rfl (z := 7) rfl ?_
              refine WP.iushr (pc' := 71) d_method_7_70 rfl ?_
              refine WP.iconst (pc' := 72) d_method_7_71 rfl (z := 1) rfl ?_
              refine WP.iand (pc' := 73) d_method_7_72 rfl ?_
              refine WP.iloadN (pc' := 74) d_method_7_73 rfl rfl ?_
              refine WP.bipush (pc' := 76) d_method_7_74 rfl (z := 7) rfl ?_
              refine WP.iushr (pc' := 77) d_method_7_76 rfl ?_
              refine WP.iconst (pc' := 78) d_method_7_77 rfl (z := 1) rfl ?_
              refine WP.iand (pc' := 79) d_method_7_78 rfl ?_
              refine WP.icmp_ne (pc1 := 86) (pc2 := 82) d_method_7_79 (by decide) (by decide) rfl ?_ ?_
              · intro hc79
                refine WP.iconst (pc' := 87) d_method_7_86 rfl (z := 0) rfl ?_
                refine WP.istore (pc' := 89) d_method_7_87 rfl (Ls' := #[.val (.int k), .val (.int m), .val (.int (k &&& (3 : Int32))), .val (.int (0 : Int32)), .val (.int (0 : Int32)), .val (.int (0 : Int32))]) rfl ?_
                refine WP.iloadN (pc' := 90) d_method_7_89 rfl rfl ?_
                have hc90 : (0 : Int32) = (0 : Int32) := by decide
                refine WP.ifc_eq (pc1 := 107) (pc2 := 93) d_method_7_90 (by decide) (by decide) rfl (fun _ => ?_) (fun k => absurd hc90 k)
                refine WP.iconst (pc' := 108) d_method_7_107 rfl (z := 0) rfl ?_
                refine WP.nret (t := .boolean) d_method_7_108 rfl (by simp) rfl (by decide) (by decide) ⟨Or.inr ⟨rfl, fun z => hc28 (z.2.1 hc15)⟩, rfl⟩
              · intro hc79
                refine WP.iconst (pc' := 83) d_method_7_82 rfl (z := 1) rfl ?_
                refine WP.goto (pc' := 87) d_method_7_83 (by decide) (by decide) ?_
                refine WP.istore (pc' := 89) d_method_7_87 rfl (Ls' := #[.val (.int k), .val (.int m), .val (.int (k &&& (3 : Int32))), .val (.int (0 : Int32)), .val (.int (0 : Int32)), .val (.int (1 : Int32))]) rfl ?_
                refine WP.iloadN (pc' := 90) d_method_7_89 rfl rfl ?_
                have hc90 : (0 : Int32) = (0 : Int32) := by decide
                refine WP.ifc_eq (pc1 := 107) (pc2 := 93) d_method_7_90 (by decide) (by decide) rfl (fun _ => ?_) (fun k => absurd hc90 k)
                refine WP.iconst (pc' := 108) d_method_7_107 rfl (z := 0) rfl ?_
                refine WP.nret (t := .boolean) d_method_7_108 rfl (by simp) rfl (by decide) (by decide) ⟨Or.inr ⟨rfl, fun z => hc28 (z.2.1 hc15)⟩, rfl⟩
          · intro hc52
            refine WP.iconst (pc' := 56) d_method_7_55 rfl (z := 1) rfl ?_
            refine WP.goto (pc' := 60) d_method_7_56 (by decide) (by decide) ?_
            refine WP.istore (pc' := 62) d_method_7_60 rfl (Ls' := #[.val (.int k), .val (.int m), .val (.int (k &&& (3 : Int32))), .val (.int (0 : Int32)), .val (.int (1 : Int32)), .unset]) rfl ?_
            refine WP.iloadN (pc' := 63) d_method_7_62 rfl rfl ?_
            refine WP.iconst (pc' := 64) d_method_7_63 rfl (z := 3) rfl ?_
            refine WP.icmp_lt (pc1 := 82) (pc2 := 67) d_method_7_64 (by decide) (by decide) rfl ?_ ?_
            · intro hc64
              refine WP.iconst (pc' := 83) d_method_7_82 rfl (z := 1) rfl ?_
              refine WP.goto (pc' := 87) d_method_7_83 (by decide) (by decide) ?_
              refine WP.istore (pc' := 89) d_method_7_87 rfl (Ls' := #[.val (.int k), .val (.int m), .val (.int (k &&& (3 : Int32))), .val (.int (0 : Int32)), .val (.int (1 : Int32)), .val (.int (1 : Int32))]) rfl ?_
              refine WP.iloadN (pc' := 90) d_method_7_89 rfl rfl ?_
              have hc90 : (0 : Int32) = (0 : Int32) := by decide
              refine WP.ifc_eq (pc1 := 107) (pc2 := 93) d_method_7_90 (by decide) (by decide) rfl (fun _ => ?_) (fun k => absurd hc90 k)
              refine WP.iconst (pc' := 108) d_method_7_107 rfl (z := 0) rfl ?_
              refine WP.nret (t := .boolean) d_method_7_108 rfl (by simp) rfl (by decide) (by decide) ⟨Or.inr ⟨rfl, fun z => hc28 (z.2.1 hc15)⟩, rfl⟩
            · intro hc64
              refine WP.iloadN (pc' := 68) d_method_7_67 rfl rfl ?_
              refine WP.bipush (pc' := 70) d_method_7_68 rfl (z := 7) rfl ?_
              refine WP.iushr (pc' := 71) d_method_7_70 rfl ?_
              refine WP.iconst (pc' := 72) d_method_7_71 rfl (z := 1) rfl ?_
              refine WP.iand (pc' := 73) d_method_7_72 rfl ?_
              refine WP.iloadN (pc' := 74) d_method_7_73 rfl rfl ?_
              refine WP.bipush (pc' := 76) d_method_7_74 rfl (z := 7) rfl ?_
              refine WP.iushr (pc' := 77) d_method_7_76 rfl ?_
              refine WP.iconst (pc' := 78) d_method_7_77 rfl (z := 1) rfl ?_
              refine WP.iand (pc' := 79) d_method_7_78 rfl ?_
              refine WP.icmp_ne (pc1 := 86) (pc2 := 82) d_method_7_79 (by decide) (by decide) rfl ?_ ?_
              · intro hc79
                refine WP.iconst (pc' := 87) d_method_7_86 rfl (z := 0) rfl ?_
                refine WP.istore (pc' := 89) d_method_7_87 rfl (Ls' := #[.val (.int k), .val (.int m), .val (.int (k &&& (3 : Int32))), .val (.int (0 : Int32)), .val (.int (1 : Int32)), .val (.int (0 : Int32))]) rfl ?_
                refine WP.iloadN (pc' := 90) d_method_7_89 rfl rfl ?_
                have hc90 : (0 : Int32) = (0 : Int32) := by decide
                refine WP.ifc_eq (pc1 := 107) (pc2 := 93) d_method_7_90 (by decide) (by decide) rfl (fun _ => ?_) (fun k => absurd hc90 k)
                refine WP.iconst (pc' := 108) d_method_7_107 rfl (z := 0) rfl ?_
                refine WP.nret (t := .boolean) d_method_7_108 rfl (by simp) rfl (by decide) (by decide) ⟨Or.inr ⟨rfl, fun z => hc28 (z.2.1 hc15)⟩, rfl⟩
              · intro hc79
                refine WP.iconst (pc' := 83) d_method_7_82 rfl (z := 1) rfl ?_
                refine WP.goto (pc' := 87) d_method_7_83 (by decide) (by decide) ?_
                refine WP.istore (pc' := 89) d_method_7_87 rfl (Ls' := #[.val (.int k), .val (.int m), .val (.int (k &&& (3 : Int32))), .val (.int (0 : Int32)), .val (.int (1 : Int32)), .val (.int (1 : Int32))]) rfl ?_
                refine WP.iloadN (pc' := 90) d_method_7_89 rfl rfl ?_
                have hc90 : (0 : Int32) = (0 : Int32) := by decide
                refine WP.ifc_eq (pc1 := 107) (pc2 := 93) d_method_7_90 (by decide) (by decide) rfl (fun _ => ?_) (fun k => absurd hc90 k)
                refine WP.iconst (pc' := 108) d_method_7_107 rfl (z := 0) rfl ?_
                refine WP.nret (t := .boolean) d_method_7_108 rfl (by simp) rfl (by decide) (by decide) ⟨Or.inr ⟨rfl, fun z => hc28 (z.2.1 hc15)⟩, rfl⟩
      · intro hc28
        refine WP.iconst (pc' := 32) d_method_7_31 rfl (z := 1) rfl ?_
        refine WP.goto (pc' := 36) d_method_7_32 (by decide) (by decide) ?_
        refine WP.istoreN (pc' := 37) d_method_7_36 rfl (Ls' := #[.val (.int k), .val (.int m), .val (.int (k &&& (3 : Int32))), .val (.int (1 : Int32)), .unset, .unset]) rfl ?_
        refine WP.iloadN (pc' := 38) d_method_7_37 rfl rfl ?_
        refine WP.iconst (pc' := 39) d_method_7_38 rfl (z := 2) rfl ?_
        refine WP.icmp_lt (pc1 := 55) (pc2 := 42) d_method_7_39 (by decide) (by decide) rfl ?_ ?_
        · intro hc39
          refine WP.iconst (pc' := 56) d_method_7_55 rfl (z := 1) rfl ?_
          refine WP.goto (pc' := 60) d_method_7_56 (by decide) (by decide) ?_
          refine WP.istore (pc' := 62) d_method_7_60 rfl (Ls' := #[.val (.int k), .val (.int m), .val (.int (k &&& (3 : Int32))), .val (.int (1 : Int32)), .val (.int (1 : Int32)), .unset]) rfl ?_
          refine WP.iloadN (pc' := 63) d_method_7_62 rfl rfl ?_
          refine WP.iconst (pc' := 64) d_method_7_63 rfl (z := 3) rfl ?_
          refine WP.icmp_lt (pc1 := 82) (pc2 := 67) d_method_7_64 (by decide) (by decide) rfl ?_ ?_
          · intro hc64
            refine WP.iconst (pc' := 83) d_method_7_82 rfl (z := 1) rfl ?_
            refine WP.goto (pc' := 87) d_method_7_83 (by decide) (by decide) ?_
            refine WP.istore (pc' := 89) d_method_7_87 rfl (Ls' := #[.val (.int k), .val (.int m), .val (.int (k &&& (3 : Int32))), .val (.int (1 : Int32)), .val (.int (1 : Int32)), .val (.int (1 : Int32))]) rfl ?_
            refine WP.iloadN (pc' := 90) d_method_7_89 rfl rfl ?_
            have hc90 : ¬ (1 : Int32) = (0 : Int32) := by decide
            refine WP.ifc_eq (pc1 := 107) (pc2 := 93) d_method_7_90 (by decide) (by decide) rfl (fun k => absurd k hc90) (fun _ => ?_)
            refine WP.iload (pc' := 95) d_method_7_93 rfl rfl ?_
            have hc95 : ¬ (1 : Int32) = (0 : Int32) := by decide
            refine WP.ifc_eq (pc1 := 107) (pc2 := 98) d_method_7_95 (by decide) (by decide) rfl (fun k => absurd k hc95) (fun _ => ?_)
            refine WP.iload (pc' := 100) d_method_7_98 rfl rfl ?_
            have hc100 : ¬ (1 : Int32) = (0 : Int32) := by decide
            refine WP.ifc_eq (pc1 := 107) (pc2 := 103) d_method_7_100 (by decide) (by decide) rfl (fun k => absurd k hc100) (fun _ => ?_)
            refine WP.iconst (pc' := 104) d_method_7_103 rfl (z := 1) rfl ?_
            refine WP.goto (pc' := 108) d_method_7_104 (by decide) (by decide) ?_
            refine WP.nret (t := .boolean) d_method_7_108 rfl (by simp) rfl (by decide) (by decide) ⟨Or.inl ⟨rfl, hc8, (fun _ => hc28), (fun q => absurd hc39 q), (fun q => absurd hc64 q)⟩, rfl⟩
          · intro hc64
            refine WP.iloadN (pc' := 68) d_method_7_67 rfl rfl ?_
            refine WP.bipush (pc' := 70) d_method_7_68 rfl (z := 7) rfl ?_
            refine WP.iushr (pc' := 71) d_method_7_70 rfl ?_
            refine WP.iconst (pc' := 72) d_method_7_71 rfl (z := 1) rfl ?_
            refine WP.iand (pc' := 73) d_method_7_72 rfl ?_
            refine WP.iloadN (pc' := 74) d_method_7_73 rfl rfl ?_
            refine WP.bipush (pc' := 76) d_method_7_74 rfl (z := 7) rfl ?_
            refine WP.iushr (pc' := 77) d_method_7_76 rfl ?_
            refine WP.iconst (pc' := 78) d_method_7_77 rfl (z := 1) rfl ?_
            refine WP.iand (pc' := 79) d_method_7_78 rfl ?_
            refine WP.icmp_ne (pc1 := 86) (pc2 := 82) d_method_7_79 (by decide) (by decide) rfl ?_ ?_
            · intro hc79
              refine WP.iconst (pc' := 87) d_method_7_86 rfl (z := 0) rfl ?_
              refine WP.istore (pc' := 89) d_method_7_87 rfl (Ls' := #[.val (.int k), .val (.int m), .val (.int (k &&& (3 : Int32))), .val (.int (1 : Int32)), .val (.int (1 : Int32)), .val (.int (0 : Int32))]) rfl ?_
              refine WP.iloadN (pc' := 90) d_method_7_89 rfl rfl ?_
              have hc90 : ¬ (1 : Int32) = (0 : Int32) := by decide
              refine WP.ifc_eq (pc1 := 107) (pc2 := 93) d_method_7_90 (by decide) (by decide) rfl (fun k => absurd k hc90) (fun _ => ?_)
              refine WP.iload (pc' := 95) d_method_7_93 rfl rfl ?_
              have hc95 : ¬ (1 : Int32) = (0 : Int32) := by decide
              refine WP.ifc_eq (pc1 := 107) (pc2 := 98) d_method_7_95 (by decide) (by decide) rfl (fun k => absurd k hc95) (fun _ => ?_)
              refine WP.iload (pc' := 100) d_method_7_98 rfl rfl ?_
              have hc100 : (0 : Int32) = (0 : Int32) := by decide
              refine WP.ifc_eq (pc1 := 107) (pc2 := 103) d_method_7_100 (by decide) (by decide) rfl (fun _ => ?_) (fun k => absurd hc100 k)
              refine WP.iconst (pc' := 108) d_method_7_107 rfl (z := 0) rfl ?_
              refine WP.nret (t := .boolean) d_method_7_108 rfl (by simp) rfl (by decide) (by decide) ⟨Or.inr ⟨rfl, fun z => hc79 (z.2.2.2 hc64)⟩, rfl⟩
            · intro hc79
              refine WP.iconst (pc' := 83) d_method_7_82 rfl (z := 1) rfl ?_
              refine WP.goto (pc' := 87) d_method_7_83 (by decide) (by decide) ?_
              refine WP.istore (pc' := 89) d_method_7_87 rfl (Ls' := #[.val (.int k), .val (.int m), .val (.int (k &&& (3 : Int32))), .val (.int (1 : Int32)), .val (.int (1 : Int32)), .val (.int (1 : Int32))]) rfl ?_
              refine WP.iloadN (pc' := 90) d_method_7_89 rfl rfl ?_
              have hc90 : ¬ (1 : Int32) = (0 : Int32) := by decide
              refine WP.ifc_eq (pc1 := 107) (pc2 := 93) d_method_7_90 (by decide) (by decide) rfl (fun k => absurd k hc90) (fun _ => ?_)
              refine WP.iload (pc' := 95) d_method_7_93 rfl rfl ?_
              have hc95 : ¬ (1 : Int32) = (0 : Int32) := by decide
              refine WP.ifc_eq (pc1 := 107) (pc2 := 98) d_method_7_95 (by decide) (by decide) rfl (fun k => absurd k hc95) (fun _ => ?_)
              refine WP.iload (pc' := 100) d_method_7_98 rfl rfl ?_
              have hc100 : ¬ (1 : Int32) = (0 : Int32) := by decide
              refine WP.ifc_eq (pc1 := 107) (pc2 := 103) d_method_7_100 (by decide) (by decide) rfl (fun k => absurd k hc100) (fun _ => ?_)
              refine WP.iconst (pc' := 104) d_method_7_103 rfl (z := 1) rfl ?_
              refine WP.goto (pc' := 108) d_method_7_104 (by decide) (by decide) ?_
              refine WP.nret (t := .boolean) d_method_7_108 rfl (by simp) rfl (by decide) (by decide) ⟨Or.inl ⟨rfl, hc8, (fun _ => hc28), (fun q => absurd hc39 q), (fun _ => hc79)⟩, rfl⟩
        · intro hc39
          refine WP.iloadN (pc' := 43) d_method_7_42 rfl rfl ?_
          refine WP.iconst (pc' := 44) d_method_7_43 rfl (z := 5) rfl ?_
          refine WP.iushr (pc' := 45) d_method_7_44 rfl ?_
          refine WP.iconst (pc' := 46) d_method_7_45 rfl (z := 1) rfl ?_
          refine WP.iand (pc' := 47) d_method_7_46 rfl ?_
          refine WP.iloadN (pc' := 48) d_method_7_47 rfl rfl ?_
          refine WP.iconst (pc' := 49) d_method_7_48 rfl (z := 5) rfl ?_
          refine WP.iushr (pc' := 50) d_method_7_49 rfl ?_
          refine WP.iconst (pc' := 51) d_method_7_50 rfl (z := 1) rfl ?_
          refine WP.iand (pc' := 52) d_method_7_51 rfl ?_
          refine WP.icmp_ne (pc1 := 59) (pc2 := 55) d_method_7_52 (by decide) (by decide) rfl ?_ ?_
          · intro hc52
            refine WP.iconst (pc' := 60) d_method_7_59 rfl (z := 0) rfl ?_
            refine WP.istore (pc' := 62) d_method_7_60 rfl (Ls' := #[.val (.int k), .val (.int m), .val (.int (k &&& (3 : Int32))), .val (.int (1 : Int32)), .val (.int (0 : Int32)), .unset]) rfl ?_
            refine WP.iloadN (pc' := 63) d_method_7_62 rfl rfl ?_
            refine WP.iconst (pc' := 64) d_method_7_63 rfl (z := 3) rfl ?_
            refine WP.icmp_lt (pc1 := 82) (pc2 := 67) d_method_7_64 (by decide) (by decide) rfl ?_ ?_
            · intro hc64
              refine WP.iconst (pc' := 83) d_method_7_82 rfl (z := 1) rfl ?_
              refine WP.goto (pc' := 87) d_method_7_83 (by decide) (by decide) ?_
              refine WP.istore (pc' := 89) d_method_7_87 rfl (Ls' := #[.val (.int k), .val (.int m), .val (.int (k &&& (3 : Int32))), .val (.int (1 : Int32)), .val (.int (0 : Int32)), .val (.int (1 : Int32))]) rfl ?_
              refine WP.iloadN (pc' := 90) d_method_7_89 rfl rfl ?_
              have hc90 : ¬ (1 : Int32) = (0 : Int32) := by decide
              refine WP.ifc_eq (pc1 := 107) (pc2 := 93) d_method_7_90 (by decide) (by decide) rfl (fun k => absurd k hc90) (fun _ => ?_)
              refine WP.iload (pc' := 95) d_method_7_93 rfl rfl ?_
              have hc95 : (0 : Int32) = (0 : Int32) := by decide
              refine WP.ifc_eq (pc1 := 107) (pc2 := 98) d_method_7_95 (by decide) (by decide) rfl (fun _ => ?_) (fun k => absurd hc95 k)
              refine WP.iconst (pc' := 108) d_method_7_107 rfl (z := 0) rfl ?_
              refine WP.nret (t := .boolean) d_method_7_108 rfl (by simp) rfl (by decide) (by decide) ⟨Or.inr ⟨rfl, fun z => hc52 (z.2.2.1 hc39)⟩, rfl⟩
            · intro hc64
              refine WP.iloadN (pc' := 68) d_method_7_67 rfl rfl ?_
              refine WP.bipush (pc' := 70) d_method_7_68 rfl (z := 7) rfl ?_
              refine WP.iushr (pc' := 71) d_method_7_70 rfl ?_
              refine WP.iconst (pc' := 72) d_method_7_71 rfl (z := 1) rfl ?_
              refine WP.iand (pc' := 73) d_method_7_72 rfl ?_
              refine WP.iloadN (pc' := 74) d_method_7_73 rfl rfl ?_
              refine WP.bipush (pc' := 76) d_method_7_74 rfl (z := 7) rfl ?_
              refine WP.iushr (pc' := 77) d_method_7_76 rfl ?_
              refine WP.iconst (pc' := 78) d_method_7_77 rfl (z := 1) rfl ?_
              refine WP.iand (pc' := 79) d_method_7_78 rfl ?_
              refine WP.icmp_ne (pc1 := 86) (pc2 := 82) d_method_7_79 (by decide) (by decide) rfl ?_ ?_
              · intro hc79
                refine WP.iconst (pc' := 87) d_method_7_86 rfl (z := 0) rfl ?_
                refine WP.istore (pc' := 89) d_method_7_87 rfl (Ls' := #[.val (.int k), .val (.int m), .val (.int (k &&& (3 : Int32))), .val (.int (1 : Int32)), .val (.int (0 : Int32)), .val (.int (0 : Int32))]) rfl ?_
                refine WP.iloadN (pc' := 90) d_method_7_89 rfl rfl ?_
                have hc90 : ¬ (1 : Int32) = (0 : Int32) := by decide
                refine WP.ifc_eq (pc1 := 107) (pc2 := 93) d_method_7_90 (by decide) (by decide) rfl (fun k => absurd k hc90) (fun _ => ?_)
                refine WP.iload (pc' := 95) d_method_7_93 rfl rfl ?_
                have hc95 : (0 : Int32) = (0 : Int32) := by decide
                refine WP.ifc_eq (pc1 := 107) (pc2 := 98) d_method_7_95 (by decide) (by decide) rfl (fun _ => ?_) (fun k => absurd hc95 k)
                refine WP.iconst (pc' := 108) d_method_7_107 rfl (z := 0) rfl ?_
                refine WP.nret (t := .boolean) d_method_7_108 rfl (by simp) rfl (by decide) (by decide) ⟨Or.inr ⟨rfl, fun z => hc52 (z.2.2.1 hc39)⟩, rfl⟩
              · intro hc79
                refine WP.iconst (pc' := 83) d_method_7_82 rfl (z := 1) rfl ?_
                refine WP.goto (pc' := 87) d_method_7_83 (by decide) (by decide) ?_
                refine WP.istore (pc' := 89) d_method_7_87 rfl (Ls' := #[.val (.int k), .val (.int m), .val (.int (k &&& (3 : Int32))), .val (.int (1 : Int32)), .val (.int (0 : Int32)), .val (.int (1 : Int32))]) rfl ?_
                refine WP.iloadN (pc' := 90) d_method_7_89 rfl rfl ?_
                have hc90 : ¬ (1 : Int32) = (0 : Int32) := by decide
                refine WP.ifc_eq (pc1 := 107) (pc2 := 93) d_method_7_90 (by decide) (by decide) rfl (fun k => absurd k hc90) (fun _ => ?_)
                refine WP.iload (pc' := 95) d_method_7_93 rfl rfl ?_
                have hc95 : (0 : Int32) = (0 : Int32) := by decide
                refine WP.ifc_eq (pc1 := 107) (pc2 := 98) d_method_7_95 (by decide) (by decide) rfl (fun _ => ?_) (fun k => absurd hc95 k)
                refine WP.iconst (pc' := 108) d_method_7_107 rfl (z := 0) rfl ?_
                refine WP.nret (t := .boolean) d_method_7_108 rfl (by simp) rfl (by decide) (by decide) ⟨Or.inr ⟨rfl, fun z => hc52 (z.2.2.1 hc39)⟩, rfl⟩
          · intro hc52
            refine WP.iconst (pc' := 56) d_method_7_55 rfl (z := 1) rfl ?_
            refine WP.goto (pc' := 60) d_method_7_56 (by decide) (by decide) ?_
            refine WP.istore (pc' := 62) d_method_7_60 rfl (Ls' := #[.val (.int k), .val (.int m), .val (.int (k &&& (3 : Int32))), .val (.int (1 : Int32)), .val (.int (1 : Int32)), .unset]) rfl ?_
            refine WP.iloadN (pc' := 63) d_method_7_62 rfl rfl ?_
            refine WP.iconst (pc' := 64) d_method_7_63 rfl (z := 3) rfl ?_
            refine WP.icmp_lt (pc1 := 82) (pc2 := 67) d_method_7_64 (by decide) (by decide) rfl ?_ ?_
            · intro hc64
              refine WP.iconst (pc' := 83) d_method_7_82 rfl (z := 1) rfl ?_
              refine WP.goto (pc' := 87) d_method_7_83 (by decide) (by decide) ?_
              refine WP.istore (pc' := 89) d_method_7_87 rfl (Ls' := #[.val (.int k), .val (.int m), .val (.int (k &&& (3 : Int32))), .val (.int (1 : Int32)), .val (.int (1 : Int32)), .val (.int (1 : Int32))]) rfl ?_
              refine WP.iloadN (pc' := 90) d_method_7_89 rfl rfl ?_
              have hc90 : ¬ (1 : Int32) = (0 : Int32) := by decide
              refine WP.ifc_eq (pc1 := 107) (pc2 := 93) d_method_7_90 (by decide) (by decide) rfl (fun k => absurd k hc90) (fun _ => ?_)
              refine WP.iload (pc' := 95) d_method_7_93 rfl rfl ?_
              have hc95 : ¬ (1 : Int32) = (0 : Int32) := by decide
              refine WP.ifc_eq (pc1 := 107) (pc2 := 98) d_method_7_95 (by decide) (by decide) rfl (fun k => absurd k hc95) (fun _ => ?_)
              refine WP.iload (pc' := 100) d_method_7_98 rfl rfl ?_
              have hc100 : ¬ (1 : Int32) = (0 : Int32) := by decide
              refine WP.ifc_eq (pc1 := 107) (pc2 := 103) d_method_7_100 (by decide) (by decide) rfl (fun k => absurd k hc100) (fun _ => ?_)
              refine WP.iconst (pc' := 104) d_method_7_103 rfl (z := 1) rfl ?_
              refine WP.goto (pc' := 108) d_method_7_104 (by decide) (by decide) ?_
              refine WP.nret (t := .boolean) d_method_7_108 rfl (by simp) rfl (by decide) (by decide) ⟨Or.inl ⟨rfl, hc8, (fun _ => hc28), (fun _ => hc52), (fun q => absurd hc64 q)⟩, rfl⟩
            · intro hc64
              refine WP.iloadN (pc' := 68) d_method_7_67 rfl rfl ?_
              refine WP.bipush (pc' := 70) d_method_7_68 rfl (z := 7) rfl ?_
              refine WP.iushr (pc' := 71) d_method_7_70 rfl ?_
              refine WP.iconst (pc' := 72) d_method_7_71 rfl (z := 1) rfl ?_
              refine WP.iand (pc' := 73) d_method_7_72 rfl ?_
              refine WP.iloadN (pc' := 74) d_method_7_73 rfl rfl ?_
              refine WP.bipush (pc' := 76) d_method_7_74 rfl (z := 7) rfl ?_
              refine WP.iushr (pc' := 77) d_method_7_76 rfl ?_
              refine WP.iconst (pc' := 78) d_method_7_77 rfl (z := 1) rfl ?_
              refine WP.iand (pc' := 79) d_method_7_78 rfl ?_
              refine WP.icmp_ne (pc1 := 86) (pc2 := 82) d_method_7_79 (by decide) (by decide) rfl ?_ ?_
              · intro hc79
                refine WP.iconst (pc' := 87) d_method_7_86 rfl (z := 0) rfl ?_
                refine WP.istore (pc' := 89) d_method_7_87 rfl (Ls' := #[.val (.int k), .val (.int m), .val (.int (k &&& (3 : Int32))), .val (.int (1 : Int32)), .val (.int (1 : Int32)), .val (.int (0 : Int32))]) rfl ?_
                refine WP.iloadN (pc' := 90) d_method_7_89 rfl rfl ?_
                have hc90 : ¬ (1 : Int32) = (0 : Int32) := by decide
                refine WP.ifc_eq (pc1 := 107) (pc2 := 93) d_method_7_90 (by decide) (by decide) rfl (fun k => absurd k hc90) (fun _ => ?_)
                refine WP.iload (pc' := 95) d_method_7_93 rfl rfl ?_
                have hc95 : ¬ (1 : Int32) = (0 : Int32) := by decide
                refine WP.ifc_eq (pc1 := 107) (pc2 := 98) d_method_7_95 (by decide) (by decide) rfl (fun k => absurd k hc95) (fun _ => ?_)
                refine WP.iload (pc' := 100) d_method_7_98 rfl rfl ?_
                have hc100 : (0 : Int32) = (0 : Int32) := by decide
                refine WP.ifc_eq (pc1 := 107) (pc2 := 103) d_method_7_100 (by decide) (by decide) rfl (fun _ => ?_) (fun k => absurd hc100 k)
                refine WP.iconst (pc' := 108) d_method_7_107 rfl (z := 0) rfl ?_
                refine WP.nret (t := .boolean) d_method_7_108 rfl (by simp) rfl (by decide) (by decide) ⟨Or.inr ⟨rfl, fun z => hc79 (z.2.2.2 hc64)⟩, rfl⟩
              · intro hc79
                refine WP.iconst (pc' := 83) d_method_7_82 rfl (z := 1) rfl ?_
                refine WP.goto (pc' := 87) d_method_7_83 (by decide) (by decide) ?_
                refine WP.istore (pc' := 89) d_method_7_87 rfl (Ls' := #[.val (.int k), .val (.int m), .val (.int (k &&& (3 : Int32))), .val (.int (1 : Int32)), .val (.int (1 : Int32)), .val (.int (1 : Int32))]) rfl ?_
                refine WP.iloadN (pc' := 90) d_method_7_89 rfl rfl ?_
                have hc90 : ¬ (1 : Int32) = (0 : Int32) := by decide
                refine WP.ifc_eq (pc1 := 107) (pc2 := 93) d_method_7_90 (by decide) (by decide) rfl (fun k => absurd k hc90) (fun _ => ?_)
                refine WP.iload (pc' := 95) d_method_7_93 rfl rfl ?_
                have hc95 : ¬ (1 : Int32) = (0 : Int32) := by decide
                refine WP.ifc_eq (pc1 := 107) (pc2 := 98) d_method_7_95 (by decide) (by decide) rfl (fun k => absurd k hc95) (fun _ => ?_)
                refine WP.iload (pc' := 100) d_method_7_98 rfl rfl ?_
                have hc100 : ¬ (1 : Int32) = (0 : Int32) := by decide
                refine WP.ifc_eq (pc1 := 107) (pc2 := 103) d_method_7_100 (by decide) (by decide) rfl (fun k => absurd k hc100) (fun _ => ?_)
                refine WP.iconst (pc' := 104) d_method_7_103 rfl (z := 1) rfl ?_
                refine WP.goto (pc' := 108) d_method_7_104 (by decide) (by decide) ?_
                refine WP.nret (t := .boolean) d_method_7_108 rfl (by simp) rfl (by decide) (by decide) ⟨Or.inl ⟨rfl, hc8, (fun _ => hc28), (fun _ => hc52), (fun _ => hc79)⟩, rfl⟩
  · intro hc8
    refine WP.iconst (pc' := 12) d_method_7_11 rfl (z := 0) rfl ?_
    refine WP.nret (t := .boolean) d_method_7_12 rfl (by simp) rfl (by decide) (by decide) ⟨Or.inr ⟨rfl, fun z => hc8 z.1⟩, rfl⟩
/-- a head with its two arrays: us bytes used, fd fields, g the bytes, e the spans -/
def Hh (Z : State) (n0 : Nat) (h : Heap) (a rw sp : Addr) (us fd : Int32) (g e : Nat → Int32) : Prop :=
  (n0 ≤ a ∧ n0 ≤ rw ∧ n0 ≤ sp ∧ rw ≠ sp ∧ rw ≠ a ∧ sp ≠ a) ∧ Exa Z h a "com/example/vipool/vipool/http/HttpHead" ∧ (Fld Z h a "com/example/vipool/vipool/http/HttpHead" "raw" "[B" (.ref rw) ∧ Fld Z h a "com/example/vipool/vipool/http/HttpHead" "spans" "[I" (.ref sp) ∧ Fld Z h a "com/example/vipool/vipool/http/HttpHead" "used" "I" (.int us) ∧ Fld Z h a "com/example/vipool/vipool/http/HttpHead" "fields" "I" (.int fd) ∧ Fld Z h a "com/example/vipool/vipool/http/HttpHead" "secondEnd" "I" (.int 0) ∧ Fld Z h a "com/example/vipool/vipool/http/HttpHead" "secondStart" "I" (.int 0) ∧ Fld Z h a "com/example/vipool/vipool/http/HttpHead" "request" "Z" (.int 0)) ∧ Ari Z h rw .byte 512 g ∧ Ari Z h sp .int 32 e
def lay (g : Nat → Int32) (U n : Nat) (q : Nat → Int32) : Nat → Int32 := fun k => if U ≤ k ∧ k < U + n then q (k - U) else g k
theorem lay0 (g : Nat → Int32) (U : Nat) (q : Nat → Int32) (k : Nat) : lay g U 0 q k = g k := by unfold lay; rw [if_neg (by omega)]
theorem lay_step {g q : Nat → Int32} {U I : Nat} {x : Int32} {G : Nat → Int32} (hx : x = q I) (hG : ∀ k, k < 512 → G k = lay g U I q k) (k : Nat) (hk : k < 512) : updI G (U + I) x k = lay g U (I + 1) q k := by
  by_cases c : k = U + I
  · rw [c, upd_at]; unfold lay; rw [if_pos (by omega), hx, show U + I - U = I by omega]
  · rw [upd_ne c, hG k hk]; unfold lay
    by_cases d : U ≤ k ∧ k < U + I
    · rw [if_pos d, if_pos (by omega)]
    · rw [if_neg d, if_neg (by omega)]
theorem back8 {x : Int32} (h : nar .byte x = x) : nar .byte ((chv x).toInt8.toInt32) = x := by
  have h0 : x.toInt8.toInt32.toInt = x.toInt := congrArg Int32.toInt (show x.toInt8.toInt32 = x from h)
  have h1 := c_mask x 255 8 (by decide) (by decide)
  have h2 := c_i2b (chv x)
  have h3 := c_i2b x
  have h4 := c_i2b ((chv x).toInt8.toInt32)
  have h5 : (chv x).toInt = (x &&& 255).toInt := rfl
  apply Int32.toInt_inj.mp
  show ((chv x).toInt8.toInt32).toInt8.toInt32.toInt = x.toInt
  omega
theorem chv_le (x : Int32) : 0 ≤ (chv x).toInt ∧ (chv x).toInt ≤ 255 := by
  have h1 := c_mask x 255 8 (by decide) (by decide)
  have h5 : (chv x).toInt = (x &&& 255).toInt := rfl
  omega
theorem mul4 {f : Int32} {F : Nat} (h : f.toInt = (F : Int)) (hF : F < 1000) : (f * 4).toInt = ((4 * F : Nat) : Int) := by
  have h1 := c_imul f 4
  have h2 := rng32 (f * 4)
  rw [h, show (4 : Int32).toInt = 4 from rfl] at h1
  omega
theorem mul4_32 {f : Int32} {F : Nat} (h : f.toInt = (F : Int)) (hF : F < 8) : ¬ f * 4 = 32 := fun q => by
  have h1 := mul4 h (by omega)
  rw [q, show (32 : Int32).toInt = 32 from rfl] at h1
  omega
def sz (e : Nat → Int32) : Nat → Int32
  | 0 => 17
  | k + 1 => if e (4 * k) = -1 then sz e k else sz e k + (e (4 * k + 1) - e (4 * k) + 2 + e (4 * k + 3) - e (4 * k + 2) + 2)
theorem sz_y {e : Nat → Int32} {k : Nat} (h : e (4 * k) = -1) : sz e k = sz e (k + 1) := by rw [sz, if_pos h]
theorem sz_n {e : Nat → Int32} {k : Nat} (h : ¬ e (4 * k) = -1) : sz e k + (e (4 * k + 1) - e (4 * k) + 2 + e (4 * k + 3) - e (4 * k + 2) + 2) = sz e (k + 1) := by rw [sz, if_neg h]
def Lt' (c : Int32) : Prop := (¬ c < 65 ∧ ¬ 90 < c) ∨ (¬ c < 97 ∧ ¬ 122 < c)
def SA (x c : Int32) : Prop := x = c ∨ (Lt' c ∧ x ||| 32 = c ||| 32)
def NM (g : Nat → Int32) (A B n : Nat) (q : Nat → Int32) : Prop := B - A = n ∧ ∀ i, i < n → SA (g (A + i)) (chv (q i))
theorem d_prog_7_method_1_0 : decode prog_7_method_1_code 0 = .ok (.aload_n 0, 1) := by decide +kernel
theorem d_prog_7_method_1_1 : decode prog_7_method_1_code 1 = .ok (.invokespecial 5, 3) := by decide +kernel
theorem wd66 {Z : State} {a0 : Array Value} (hw : ∀ d ∈ tables_1, d.before a0 Z = true) : (Jvm.Cond.methodLink "com/example/vipool/vipool/http/HttpHead" (5 : Nat) ({ cls := "java/lang/Object", name := "<init>", desc := "()V" } : Jvm.MethodName)).before a0 Z = true := hw _ (List.mem_of_getElem? (i := 66) rfl)
theorem d_prog_7_method_1_4 : decode prog_7_method_1_code 4 = .ok (.aload_n 0, 1) := by decide +kernel
theorem d_prog_7_method_1_5 : decode prog_7_method_1_code 5 = .ok (.sipush 512, 3) := by decide +kernel
theorem d_prog_7_method_1_8 : decode prog_7_method_1_code 8 = .ok (.newarray .byte, 2) := by decide +kernel
theorem d_prog_7_method_1_10 : decode prog_7_method_1_code 10 = .ok (.putfield 11, 3) := by decide +kernel
theorem wd67 {Z : State} {a0 : Array Value} (hw : ∀ d ∈ tables_1, d.before a0 Z = true) : (Jvm.Cond.fieldLink "com/example/vipool/vipool/http/HttpHead" (11 : Nat) "com/example/vipool/vipool/http/HttpHead" "raw" "[B").before a0 Z = true := hw _ (List.mem_of_getElem? (i := 67) rfl)
theorem wd68 {Z : State} {a0 : Array Value} (hw : ∀ d ∈ tables_1, d.before a0 Z = true) : (Jvm.Cond.lays "com/example/vipool/vipool/http/HttpHead" "com/example/vipool/vipool/http/HttpHead" "raw" "[B").before a0 Z = true := hw _ (List.mem_of_getElem? (i := 68) rfl)
theorem wd61 {Z : State} {a0 : Array Value} (hw : ∀ d ∈ tables_1, d.before a0 Z = true) : (Jvm.Cond.instantiable "com/example/vipool/vipool/http/HttpHead" (18 : Nat)).before a0 Z = true := hw _ (List.mem_of_getElem? (i := 61) rfl)
theorem wd71 {Z : State} {a0 : Array Value} (hw : ∀ d ∈ tables_1, d.before a0 Z = true) : (Jvm.Cond.lays "com/example/vipool/vipool/http/HttpHead" "com/example/vipool/vipool/http/HttpHead" "spans" "[I").before a0 Z = true := hw _ (List.mem_of_getElem? (i := 71) rfl)
theorem wd91 {Z : State} {a0 : Array Value} (hw : ∀ d ∈ tables_1, d.before a0 Z = true) : (Jvm.Cond.lays "com/example/vipool/vipool/http/HttpHead" "com/example/vipool/vipool/http/HttpHead" "used" "I").before a0 Z = true := hw _ (List.mem_of_getElem? (i := 91) rfl)
theorem wd84 {Z : State} {a0 : Array Value} (hw : ∀ d ∈ tables_1, d.before a0 Z = true) : (Jvm.Cond.lays "com/example/vipool/vipool/http/HttpHead" "com/example/vipool/vipool/http/HttpHead" "fields" "I").before a0 Z = true := hw _ (List.mem_of_getElem? (i := 84) rfl)
theorem wd78 {Z : State} {a0 : Array Value} (hw : ∀ d ∈ tables_1, d.before a0 Z = true) : (Jvm.Cond.lays "com/example/vipool/vipool/http/HttpHead" "com/example/vipool/vipool/http/HttpHead" "secondEnd" "I").before a0 Z = true := hw _ (List.mem_of_getElem? (i := 78) rfl)
theorem wd80 {Z : State} {a0 : Array Value} (hw : ∀ d ∈ tables_1, d.before a0 Z = true) : (Jvm.Cond.lays "com/example/vipool/vipool/http/HttpHead" "com/example/vipool/vipool/http/HttpHead" "secondStart" "I").before a0 Z = true := hw _ (List.mem_of_getElem? (i := 80) rfl)
theorem wd82 {Z : State} {a0 : Array Value} (hw : ∀ d ∈ tables_1, d.before a0 Z = true) : (Jvm.Cond.lays "com/example/vipool/vipool/http/HttpHead" "com/example/vipool/vipool/http/HttpHead" "request" "Z").before a0 Z = true := hw _ (List.mem_of_getElem? (i := 82) rfl)
theorem d_prog_7_method_1_13 : decode prog_7_method_1_code 13 = .ok (.aload_n 0, 1) := by decide +kernel
theorem d_prog_7_method_1_14 : decode prog_7_method_1_code 14 = .ok (.bipush 32, 2) := by decide +kernel
theorem d_prog_7_method_1_16 : decode prog_7_method_1_code 16 = .ok (.newarray .int, 2) := by decide +kernel
theorem wd69 {Z : State} {a0 : Array Value} (hw : ∀ d ∈ tables_1, d.before a0 Z = true) : (Jvm.Cond.arrayClass Jvm.ClassFile.FieldType.int).before a0 Z = true := hw _ (List.mem_of_getElem? (i := 69) rfl)
theorem d_prog_7_method_1_18 : decode prog_7_method_1_code 18 = .ok (.putfield 15, 3) := by decide +kernel
theorem wd70 {Z : State} {a0 : Array Value} (hw : ∀ d ∈ tables_1, d.before a0 Z = true) : (Jvm.Cond.fieldLink "com/example/vipool/vipool/http/HttpHead" (15 : Nat) "com/example/vipool/vipool/http/HttpHead" "spans" "[I").before a0 Z = true := hw _ (List.mem_of_getElem? (i := 70) rfl)
theorem d_prog_7_method_1_21 : decode prog_7_method_1_code 21 = .ok (.return_, 1) := by decide +kernel
theorem pn_5 : plainName "com/example/vipool/vipool/http/HttpHead" = true := by first | (simp [plainName, overriddenIn]; done) | decide +kernel
set_option maxRecDepth 65536 in
set_option maxHeartbeats 40000000 in
theorem m_ini {Z : State} {a0 : Array Value} (hw : ∀ d ∈ tables_1, d.before a0 Z = true) (a : Addr) (h0 : Heap) (n0 : Nat) (Z0 : n0 ≤ h0.size) (O0 : Old Z n0 h0) (g_a : n0 ≤ a) (E0 : Exa Z h0 a "com/example/vipool/vipool/http/HttpHead") (F_raw : Fld Z h0 a "com/example/vipool/vipool/http/HttpHead" "raw" "[B" .null) (F_spans : Fld Z h0 a "com/example/vipool/vipool/http/HttpHead" "spans" "[I" .null) (F_used : Fld Z h0 a "com/example/vipool/vipool/http/HttpHead" "used" "I" (.int 0)) (F_fields : Fld Z h0 a "com/example/vipool/vipool/http/HttpHead" "fields" "I" (.int 0)) (F_secondEnd : Fld Z h0 a "com/example/vipool/vipool/http/HttpHead" "secondEnd" "I" (.int 0)) (F_secondStart : Fld Z h0 a "com/example/vipool/vipool/http/HttpHead" "secondStart" "I" (.int 0)) (F_request : Fld Z h0 a "com/example/vipool/vipool/http/HttpHead" "request" "Z" (.int 0)) : ∀ l, Does l Z (⟨"com/example/vipool/vipool/http/HttpHead", "<init>", "()V"⟩ : MethodName) prog_7_method_1_code 1 none ({ frames := 1, cells := 2, slots := 544, locals := 12 } : Room) n0 #[(.ref a)] h0 (fun v h => v = none ∧ ∃ rw sp : Addr, Keep h0 h [a] ∧ h0.size ≤ rw ∧ h0.size ≤ sp ∧ Hh Z n0 h a rw sp 0 0 (fun _ => 0) (fun _ => 0)) := by
  intro l
  refine Does.of_wp (plainFor_of_name pn_5) (Ls := #[.val (.ref a)]) (fun m => by first | (simp [entryFrame, mkF, argsToLocals, Value.category]; done) | rfl | (rcases ref_cases hfv with rfl | ⟨_, rfl⟩ <;> rfl)) ?_
  intro C
  have K0 := Keep.refl h0 [a]
  refine WP.aloadN (pc' := 1) d_prog_7_method_1_0 rfl rfl rfl ?_
  refine WP.initO (wd := 0) (pc' := 4) d_prog_7_method_1_1 rfl (wd66 hw) (wd22 hw) (wd23 hw) rfl (by decide) (Nat.le_of_eq rfl) (by decide) ?_
  refine WP.aloadN (pc' := 5) d_prog_7_method_1_4 rfl rfl rfl ?_
  refine WP.sipush (pc' := 8) d_prog_7_method_1_5 rfl (z := 512) rfl ?_
  refine WP.newPI (ty := .byte) (n := 512) (cap := 512) (cl' := 1) (sl' := 512) (pc' := 10) d_prog_7_method_1_8 rfl rfl rfl (wd25 hw) (by decide) (by decide) (by decide) rfl rfl (by decide) (by decide) ?_
  intro h1 b1 g1 E1 A1
  have ge2 : n0 ≤ b1 := by rw [g1]; exact Z0
  have sz3 : h0.size ≤ b1 := by rw [g1]; exact K0.1
  have ne4 : a ≠ b1 := by rw [g1]; exact Nat.ne_of_lt E0.lt
  have E5 := E0.ext E1
  have F6 := F_raw.ext E1
  have F7 := F_spans.ext E1
  have F8 := F_used.ext E1
  have F9 := F_fields.ext E1
  have F10 := F_secondEnd.ext E1
  have F11 := F_secondStart.ext E1
  have F12 := F_request.ext E1
  have O13 := O0.ext E1
  have K14 := K0.ext E1
  have Z15 : n0 ≤ h1.size := Nat.le_trans Z0 E1.1
  refine WP.putF (pc' := 13) d_prog_7_method_1_10 rfl (host := "") (Or.inl (wd67 hw)) Via.refl F6 E5 (Or.inl (wd68 hw)) (wd61 hw) (ty := (.array .byte)) (by decide) rfl rfl g_a ?_
  intro h16 W17
  have Kw18 := Keep.of_wr W17
  have E19 := E5.keep Kw18
  have V20 := A1.keep Kw18 (ninS (Ne.symm ne4) nin0)
  have O21 := O13.keep Kw18 (allS g_a all0)
  have K22 := K14.trans Kw18 (allS (Or.inl (by simp)) all0)
  have Z23 : n0 ≤ h16.size := Nat.le_trans Z15 Kw18.1
  have F24 := F6.same W17
  have F25 := F7.other W17 (Or.inr (slot_ne (Or.inl (wd71 hw)) (Or.inl (wd68 hw)) (by decide) (t := (.array .int)) (t' := (.array .byte)) (by decide) (by decide)))
  have F26 := F8.other W17 (Or.inr (slot_ne (Or.inl (wd91 hw)) (Or.inl (wd68 hw)) (by decide) (t := .int) (t' := (.array .byte)) (by decide) (by decide)))
  have F27 := F9.other W17 (Or.inr (slot_ne (Or.inl (wd84 hw)) (Or.inl (wd68 hw)) (by decide) (t := .int) (t' := (.array .byte)) (by decide) (by decide)))
  have F28 := F10.other W17 (Or.inr (slot_ne (Or.inl (wd78 hw)) (Or.inl (wd68 hw)) (by decide) (t := .int) (t' := (.array .byte)) (by decide) (by decide)))
  have F29 := F11.other W17 (Or.inr (slot_ne (Or.inl (wd80 hw)) (Or.inl (wd68 hw)) (by decide) (t := .int) (t' := (.array .byte)) (by decide) (by decide)))
  have F30 := F12.other W17 (Or.inr (slot_ne (Or.inl (wd82 hw)) (Or.inl (wd68 hw)) (by decide) (t := .boolean) (t' := (.array .byte)) (by decide) (by decide)))
  refine WP.aloadN (pc' := 14) d_prog_7_method_1_13 rfl rfl rfl ?_
  refine WP.bipush (pc' := 16) d_prog_7_method_1_14 rfl (z := 32) rfl ?_
  refine WP.newPI (ty := .int) (n := 32) (cap := 32) (cl' := 2) (sl' := 544) (pc' := 18) d_prog_7_method_1_16 rfl rfl rfl (wd69 hw) (by decide) (by decide) (by decide) rfl rfl (by decide) (by decide) ?_
  intro h31 b31 g31 E31 A31
  have ge32 : n0 ≤ b31 := by rw [g31]; exact Z23
  have sz33 : h0.size ≤ b31 := by rw [g31]; exact K22.1
  have ne34 : a ≠ b31 := by rw [g31]; exact Nat.ne_of_lt E19.lt
  have ne35 : b1 ≠ b31 := by rw [g31]; exact Nat.ne_of_lt V20.lt
  have E36 := E19.ext E31
  have V37 := V20.ext E31
  have F38 := F24.ext E31
  have F39 := F25.ext E31
  have F40 := F26.ext E31
  have F41 := F27.ext E31
  have F42 := F28.ext E31
  have F43 := F29.ext E31
  have F44 := F30.ext E31
  have O45 := O21.ext E31
  have K46 := K22.ext E31
  have Z47 : n0 ≤ h31.size := Nat.le_trans Z23 E31.1
  refine WP.putF (pc' := 21) d_prog_7_method_1_18 rfl (host := "") (Or.inl (wd70 hw)) Via.refl F39 E36 (Or.inl (wd71 hw)) (wd61 hw) (ty := (.array .int)) (by decide) rfl rfl g_a ?_
  intro h48 W49
  have Kw50 := Keep.of_wr W49
  have E51 := E36.keep Kw50
  have V52 := V37.keep Kw50 (ninS (Ne.symm ne4) nin0)
  have V53 := A31.keep Kw50 (ninS (Ne.symm ne34) nin0)
  have O54 := O45.keep Kw50 (allS g_a all0)
  have K55 := K46.trans Kw50 (allS (Or.inl (by simp)) all0)
  have Z56 : n0 ≤ h48.size := Nat.le_trans Z47 Kw50.1
  have F57 := F38.other W49 (Or.inr (slot_ne (Or.inl (wd68 hw)) (Or.inl (wd71 hw)) (by decide) (t := (.array .byte)) (t' := (.array .int)) (by decide) (by decide)))
  have F58 := F39.same W49
  have F59 := F40.other W49 (Or.inr (slot_ne (Or.inl (wd91 hw)) (Or.inl (wd71 hw)) (by decide) (t := .int) (t' := (.array .int)) (by decide) (by decide)))
  have F60 := F41.other W49 (Or.inr (slot_ne (Or.inl (wd84 hw)) (Or.inl (wd71 hw)) (by decide) (t := .int) (t' := (.array .int)) (by decide) (by decide)))
  have F61 := F42.other W49 (Or.inr (slot_ne (Or.inl (wd78 hw)) (Or.inl (wd71 hw)) (by decide) (t := .int) (t' := (.array .int)) (by decide) (by decide)))
  have F62 := F43.other W49 (Or.inr (slot_ne (Or.inl (wd80 hw)) (Or.inl (wd71 hw)) (by decide) (t := .int) (t' := (.array .int)) (by decide) (by decide)))
  have F63 := F44.other W49 (Or.inr (slot_ne (Or.inl (wd82 hw)) (Or.inl (wd71 hw)) (by decide) (t := .boolean) (t' := (.array .int)) (by decide) (by decide)))
  exact WP.vret d_prog_7_method_1_21 rfl (by decide) (by decide) ⟨rfl, _, _, K55, sz3, sz33, ⟨⟨g_a, ge2, ge32, ne35, (Ne.symm ne4), (Ne.symm ne34)⟩, E51, ⟨F57, F58, F59, F60, F61, F62, F63⟩, V52, V53⟩⟩
theorem d_prog_7_method_26_0 : decode prog_7_method_26_code 0 = .ok (.aload_n 0, 1) := by decide +kernel
theorem d_prog_7_method_26_1 : decode prog_7_method_26_code 1 = .ok (.getfield 132, 3) := by decide +kernel
theorem wd77 {Z : State} {a0 : Array Value} (hw : ∀ d ∈ tables_1, d.before a0 Z = true) : (Jvm.Cond.fieldLink "com/example/vipool/vipool/http/HttpHead" (132 : Nat) "com/example/vipool/vipool/http/HttpHead" "secondEnd" "I").before a0 Z = true := hw _ (List.mem_of_getElem? (i := 77) rfl)
theorem d_prog_7_method_26_4 : decode prog_7_method_26_code 4 = .ok (.aload_n 0, 1) := by decide +kernel
theorem d_prog_7_method_26_5 : decode prog_7_method_26_code 5 = .ok (.getfield 238, 3) := by decide +kernel
theorem wd79 {Z : State} {a0 : Array Value} (hw : ∀ d ∈ tables_1, d.before a0 Z = true) : (Jvm.Cond.fieldLink "com/example/vipool/vipool/http/HttpHead" (238 : Nat) "com/example/vipool/vipool/http/HttpHead" "secondStart" "I").before a0 Z = true := hw _ (List.mem_of_getElem? (i := 79) rfl)
theorem d_prog_7_method_26_8 : decode prog_7_method_26_code 8 = .ok (.isub, 1) := by decide +kernel
theorem d_prog_7_method_26_9 : decode prog_7_method_26_code 9 = .ok (.bipush 8, 2) := by decide +kernel
theorem d_prog_7_method_26_11 : decode prog_7_method_26_code 11 = .ok (.iadd, 1) := by decide +kernel
theorem d_prog_7_method_26_12 : decode prog_7_method_26_code 12 = .ok (.bipush 6, 2) := by decide +kernel
theorem d_prog_7_method_26_14 : decode prog_7_method_26_code 14 = .ok (.iadd, 1) := by decide +kernel
theorem d_prog_7_method_26_15 : decode prog_7_method_26_code 15 = .ok (.istore_n 1, 1) := by decide +kernel
theorem d_prog_7_method_26_16 : decode prog_7_method_26_code 16 = .ok (.iload_n 1, 1) := by decide +kernel
theorem d_prog_7_method_26_17 : decode prog_7_method_26_code 17 = .ok (.aload_n 0, 1) := by decide +kernel
theorem d_prog_7_method_26_18 : decode prog_7_method_26_code 18 = .ok (.getfield 241, 3) := by decide +kernel
theorem wd81 {Z : State} {a0 : Array Value} (hw : ∀ d ∈ tables_1, d.before a0 Z = true) : (Jvm.Cond.fieldLink "com/example/vipool/vipool/http/HttpHead" (241 : Nat) "com/example/vipool/vipool/http/HttpHead" "request" "Z").before a0 Z = true := hw _ (List.mem_of_getElem? (i := 81) rfl)
theorem d_prog_7_method_26_21 : decode prog_7_method_26_code 21 = .ok (.ifCond .eq 10, 3) := by decide +kernel
theorem d_prog_7_method_26_31 : decode prog_7_method_26_code 31 = .ok (.iconst 3, 1) := by decide +kernel
theorem d_prog_7_method_26_32 : decode prog_7_method_26_code 32 = .ok (.iadd, 1) := by decide +kernel
theorem d_prog_7_method_26_33 : decode prog_7_method_26_code 33 = .ok (.istore_n 1, 1) := by decide +kernel
theorem d_prog_7_method_26_34 : decode prog_7_method_26_code 34 = .ok (.iconst 0, 1) := by decide +kernel
theorem d_prog_7_method_26_35 : decode prog_7_method_26_code 35 = .ok (.istore_n 2, 1) := by decide +kernel
theorem d_prog_7_method_26_36 : decode prog_7_method_26_code 36 = .ok (.iload_n 2, 1) := by decide +kernel
theorem d_prog_7_method_26_37 : decode prog_7_method_26_code 37 = .ok (.aload_n 0, 1) := by decide +kernel
theorem d_prog_7_method_26_38 : decode prog_7_method_26_code 38 = .ok (.getfield 117, 3) := by decide +kernel
theorem wd83 {Z : State} {a0 : Array Value} (hw : ∀ d ∈ tables_1, d.before a0 Z = true) : (Jvm.Cond.fieldLink "com/example/vipool/vipool/http/HttpHead" (117 : Nat) "com/example/vipool/vipool/http/HttpHead" "fields" "I").before a0 Z = true := hw _ (List.mem_of_getElem? (i := 83) rfl)
theorem d_prog_7_method_26_41 : decode prog_7_method_26_code 41 = .ok (.if_icmp .ge 63, 3) := by decide +kernel
theorem d_prog_7_method_26_104 : decode prog_7_method_26_code 104 = .ok (.iload_n 1, 1) := by decide +kernel
theorem d_prog_7_method_26_105 : decode prog_7_method_26_code 105 = .ok (.ireturn, 1) := by decide +kernel
theorem d_prog_7_method_26_44 : decode prog_7_method_26_code 44 = .ok (.iload_n 2, 1) := by decide +kernel
theorem d_prog_7_method_26_45 : decode prog_7_method_26_code 45 = .ok (.iconst 4, 1) := by decide +kernel
theorem d_prog_7_method_26_46 : decode prog_7_method_26_code 46 = .ok (.imul, 1) := by decide +kernel
theorem d_prog_7_method_26_47 : decode prog_7_method_26_code 47 = .ok (.istore_n 3, 1) := by decide +kernel
theorem d_prog_7_method_26_48 : decode prog_7_method_26_code 48 = .ok (.aload_n 0, 1) := by decide +kernel
theorem d_prog_7_method_26_49 : decode prog_7_method_26_code 49 = .ok (.getfield 15, 3) := by decide +kernel
theorem d_prog_7_method_26_52 : decode prog_7_method_26_code 52 = .ok (.iload_n 3, 1) := by decide +kernel
theorem d_prog_7_method_26_53 : decode prog_7_method_26_code 53 = .ok (.iaload, 1) := by decide +kernel
theorem d_prog_7_method_26_54 : decode prog_7_method_26_code 54 = .ok (.iconst (-1), 1) := by decide +kernel
theorem d_prog_7_method_26_55 : decode prog_7_method_26_code 55 = .ok (.if_icmp .eq 43, 3) := by decide +kernel
theorem d_prog_7_method_26_98 : decode prog_7_method_26_code 98 = .ok (.iinc 2 1, 3) := by decide +kernel
theorem d_prog_7_method_26_101 : decode prog_7_method_26_code 101 = .ok (.goto (-65), 3) := by decide +kernel
theorem d_prog_7_method_26_58 : decode prog_7_method_26_code 58 = .ok (.iload_n 1, 1) := by decide +kernel
theorem d_prog_7_method_26_59 : decode prog_7_method_26_code 59 = .ok (.aload_n 0, 1) := by decide +kernel
theorem d_prog_7_method_26_60 : decode prog_7_method_26_code 60 = .ok (.getfield 15, 3) := by decide +kernel
theorem d_prog_7_method_26_63 : decode prog_7_method_26_code 63 = .ok (.iload_n 3, 1) := by decide +kernel
theorem d_prog_7_method_26_64 : decode prog_7_method_26_code 64 = .ok (.iconst 1, 1) := by decide +kernel
theorem d_prog_7_method_26_65 : decode prog_7_method_26_code 65 = .ok (.iadd, 1) := by decide +kernel
theorem d_prog_7_method_26_66 : decode prog_7_method_26_code 66 = .ok (.iaload, 1) := by decide +kernel
theorem d_prog_7_method_26_67 : decode prog_7_method_26_code 67 = .ok (.aload_n 0, 1) := by decide +kernel
theorem d_prog_7_method_26_68 : decode prog_7_method_26_code 68 = .ok (.getfield 15, 3) := by decide +kernel
theorem d_prog_7_method_26_71 : decode prog_7_method_26_code 71 = .ok (.iload_n 3, 1) := by decide +kernel
theorem d_prog_7_method_26_72 : decode prog_7_method_26_code 72 = .ok (.iaload, 1) := by decide +kernel
theorem d_prog_7_method_26_73 : decode prog_7_method_26_code 73 = .ok (.isub, 1) := by decide +kernel
theorem d_prog_7_method_26_74 : decode prog_7_method_26_code 74 = .ok (.iconst 2, 1) := by decide +kernel
theorem d_prog_7_method_26_75 : decode prog_7_method_26_code 75 = .ok (.iadd, 1) := by decide +kernel
theorem d_prog_7_method_26_76 : decode prog_7_method_26_code 76 = .ok (.aload_n 0, 1) := by decide +kernel
theorem d_prog_7_method_26_77 : decode prog_7_method_26_code 77 = .ok (.getfield 15, 3) := by decide +kernel
theorem d_prog_7_method_26_80 : decode prog_7_method_26_code 80 = .ok (.iload_n 3, 1) := by decide +kernel
theorem d_prog_7_method_26_81 : decode prog_7_method_26_code 81 = .ok (.iconst 3, 1) := by decide +kernel
theorem d_prog_7_method_26_82 : decode prog_7_method_26_code 82 = .ok (.iadd, 1) := by decide +kernel
theorem d_prog_7_method_26_83 : decode prog_7_method_26_code 83 = .ok (.iaload, 1) := by decide +kernel
theorem d_prog_7_method_26_84 : decode prog_7_method_26_code 84 = .ok (.iadd, 1) := by decide +kernel
theorem d_prog_7_method_26_85 : decode prog_7_method_26_code 85 = .ok (.aload_n 0, 1) := by decide +kernel
theorem d_prog_7_method_26_86 : decode prog_7_method_26_code 86 = .ok (.getfield 15, 3) := by decide +kernel
theorem d_prog_7_method_26_89 : decode prog_7_method_26_code 89 = .ok (.iload_n 3, 1) := by decide +kernel
theorem d_prog_7_method_26_90 : decode prog_7_method_26_code 90 = .ok (.iconst 2, 1) := by decide +kernel
theorem d_prog_7_method_26_91 : decode prog_7_method_26_code 91 = .ok (.iadd, 1) := by decide +kernel
theorem d_prog_7_method_26_92 : decode prog_7_method_26_code 92 = .ok (.iaload, 1) := by decide +kernel
theorem d_prog_7_method_26_93 : decode prog_7_method_26_code 93 = .ok (.isub, 1) := by decide +kernel
theorem d_prog_7_method_26_94 : decode prog_7_method_26_code 94 = .ok (.iconst 2, 1) := by decide +kernel
theorem d_prog_7_method_26_95 : decode prog_7_method_26_code 95 = .ok (.iadd, 1) := by decide +kernel
theorem d_prog_7_method_26_96 : decode prog_7_method_26_code 96 = .ok (.iadd, 1) := by decide +kernel
theorem d_prog_7_method_26_97 : decode prog_7_method_26_code 97 = .ok (.istore_n 1, 1) := by decide +kernel
set_option maxRecDepth 65536 in
set_option maxHeartbeats 40000000 in
theorem m_size {Z : State} {a0 : Array Value} (hw : ∀ d ∈ tables_1, d.before a0 Z = true) (a : Addr) (h0 : Heap) (n0 : Nat) (rw sp : Addr) (us fd : Int32) (g e : Nat → Int32) (R0 : Hh Z n0 h0 a rw sp us fd g e) (F : Nat) (hF : fd.toInt = (F : Int)) (hF8 : F ≤ 7) : ∀ l, Does l Z (⟨"com/example/vipool/vipool/http/HttpHead", "size", "()I"⟩ : MethodName) prog_7_method_26_code 4 (some .int) ({ frames := 0, cells := 0, slots := 0, locals := 0 } : Room) n0 #[(.ref a)] h0 (fun v h => v = some (.int (sz e F)) ∧ h = h0) := by
  intro l
  refine Does.of_wp (plainFor_of_name pn_5) (Ls := #[.val (.ref a), .unset, .unset, .unset]) (fun m => by first | (simp [entryFrame, mkF, argsToLocals, Value.category]; done) | rfl | (rcases ref_cases hfv with rfl | ⟨_, rfl⟩ <;> rfl)) ?_
  intro C
  obtain ⟨⟨ga1, gr1, gs1, nrs1, nra1, nsa1⟩, X1, ⟨Fraw_1, Fspans_1, Fused_1, Ffields_1, FsecondEnd_1, FsecondStart_1, Frequest_1⟩, AR1, AS1⟩ := id R0
  refine WP.aloadN (pc' := 1) d_prog_7_method_26_0 rfl rfl rfl ?_
  refine WP.getF (pc' := 4) d_prog_7_method_26_1 rfl (host := "") (Or.inl (wd77 hw)) Via.refl FsecondEnd_1 ?_
  refine WP.aloadN (pc' := 5) d_prog_7_method_26_4 rfl rfl rfl ?_
  refine WP.getF (pc' := 8) d_prog_7_method_26_5 rfl (host := "") (Or.inl (wd79 hw)) Via.refl FsecondStart_1 ?_
  refine WP.isub (pc' := 9) d_prog_7_method_26_8 rfl ?_
  refine WP.bipush (pc' := 11) d_prog_7_method_26_9 rfl (z := 8) rfl ?_
  refine WP.iadd (pc' := 12) d_prog_7_method_26_11 rfl ?_
  refine WP.bipush (pc' := 14) d_prog_7_method_26_12 rfl (z := 6) rfl ?_
  refine WP.iadd (pc' := 15) d_prog_7_method_26_14 rfl ?_
  refine WP.istoreN (pc' := 16) d_prog_7_method_26_15 rfl (Ls' := #[.val (.ref a), .val (.int ((((0 : Int32) - (0 : Int32)) + (8 : Int32)) + (6 : Int32))), .unset, .unset]) rfl ?_
  refine WP.iloadN (pc' := 17) d_prog_7_method_26_16 rfl rfl ?_
  refine WP.aloadN (pc' := 18) d_prog_7_method_26_17 rfl rfl rfl ?_
  refine WP.getF (pc' := 21) d_prog_7_method_26_18 rfl (host := "") (Or.inl (wd81 hw)) Via.refl Frequest_1 ?_
  have hc21 : (0 : Int32) = (0 : Int32) := by decide
  refine WP.ifc_eq (pc1 := 31) (pc2 := 24) d_prog_7_method_26_21 (by decide) (by decide) rfl (fun _ => ?_) (fun k => absurd hc21 k)
  refine WP.iconst (pc' := 32) d_prog_7_method_26_31 rfl (z := 3) rfl ?_
  refine WP.iadd (pc' := 33) d_prog_7_method_26_32 rfl ?_
  refine WP.istoreN (pc' := 34) d_prog_7_method_26_33 rfl (Ls' := #[.val (.ref a), .val (.int (((((0 : Int32) - (0 : Int32)) + (8 : Int32)) + (6 : Int32)) + (3 : Int32))), .unset, .unset]) rfl ?_
  refine WP.iconst (pc' := 35) d_prog_7_method_26_34 rfl (z := 0) rfl ?_
  refine WP.istoreN (pc' := 36) d_prog_7_method_26_35 rfl (Ls' := #[.val (.ref a), .val (.int (((((0 : Int32) - (0 : Int32)) + (8 : Int32)) + (6 : Int32)) + (3 : Int32))), .val (.int (0 : Int32)), .unset]) rfl ?_
  have loop : ∀ (k I : Nat) (i : Int32) (s3 : Slot), (s3 = .unset ∨ ∃ u, s3 = .val u ∧ u.category = 1) → i.toInt = (I : Int) → I ≤ F → F - I < k → WP C Z prog_7_method_26_code 4 "com/example/vipool/vipool/http/HttpHead" (some .int) "size" ({ frames := 0, cells := 0, slots := 0, locals := 0 } : Room) n0 (fun v h => v = some (.int (sz e F)) ∧ h = h0) 0 0 h0 36 #[.val (.ref a), .val (.int (sz e I)), .val (.int i), s3] [] := by
    intro k
    induction k with
    | zero => intro I i s3 h1 h2 h3; omega
    | succ k IH =>
      intro I i s3 hs3 hi hI hk
      refine WP.iloadN (pc' := 37) d_prog_7_method_26_36 rfl rfl ?_
      refine WP.aloadN (pc' := 38) d_prog_7_method_26_37 rfl rfl rfl ?_
      refine WP.getF (pc' := 41) d_prog_7_method_26_38 rfl (host := "") (Or.inl (wd83 hw)) Via.refl Ffields_1 ?_
      refine WP.icmp_ge (pc1 := 104) (pc2 := 44) d_prog_7_method_26_41 (by decide) (by decide) rfl ?_ ?_
      · intro hc41
        refine WP.iloadN (pc' := 105) d_prog_7_method_26_104 rfl rfl ?_
        refine WP.iret d_prog_7_method_26_105 rfl (by decide) (by decide) ⟨by rw [show F = I by rw [Int32.lt_iff_toInt_lt] at hc41; omega], rfl⟩
      · intro hc41
        have lt1 : I < F := by rw [Int32.lt_iff_toInt_lt] at hc41; omega
        have m4 := mul4 hi (by omega)
        refine WP.iloadN (pc' := 45) d_prog_7_method_26_44 rfl rfl ?_
        refine WP.iconst (pc' := 46) d_prog_7_method_26_45 rfl (z := 4) rfl ?_
        refine WP.imul (pc' := 47) d_prog_7_method_26_46 rfl ?_
        refine WP.istoreN (pc' := 48) d_prog_7_method_26_47 rfl (Ls' := #[.val (.ref a), .val (.int (sz e I)), .val (.int i), .val (.int (i * (4 : Int32)))]) (XS.store1 rfl hs3 rfl) ?_
        refine WP.aloadN (pc' := 49) d_prog_7_method_26_48 rfl rfl rfl ?_
        refine WP.getF (pc' := 52) d_prog_7_method_26_49 rfl (host := "") (Or.inl (wd70 hw)) Via.refl Fspans_1 ?_
        refine WP.iloadN (pc' := 53) d_prog_7_method_26_52 rfl rfl ?_
        refine WP.ialoadI (4 * I) (pc' := 54) d_prog_7_method_26_53 rfl AS1 m4 (by omega) rfl ?_
        refine WP.iconst (pc' := 55) d_prog_7_method_26_54 rfl (z := -1) rfl ?_
        refine WP.icmp_eq (pc1 := 98) (pc2 := 58) d_prog_7_method_26_55 (by decide) (by decide) rfl ?_ ?_
        · intro hc55
          refine WP.iinc (pc' := 101) d_prog_7_method_26_98 rfl rfl (z := (i + (1 : Int32))) rfl (Ls' := #[.val (.ref a), .val (.int (sz e I)), .val (.int (i + (1 : Int32))), .val (.int (i * (4 : Int32)))]) rfl ?_
          refine WP.goto (pc' := 36) d_prog_7_method_26_101 (by decide) (by decide) ?_
          rw [sz_y hc55]
          exact IH (I + 1) _ _ (Or.inr ⟨_, rfl, rfl⟩) (adds hi rfl (by omega)) (by omega) (by omega)
        · intro hc55
          refine WP.iloadN (pc' := 59) d_prog_7_method_26_58 rfl rfl ?_
          refine WP.aloadN (pc' := 60) d_prog_7_method_26_59 rfl rfl rfl ?_
          refine WP.getF (pc' := 63) d_prog_7_method_26_60 rfl (host := "") (Or.inl (wd70 hw)) Via.refl Fspans_1 ?_
          refine WP.iloadN (pc' := 64) d_prog_7_method_26_63 rfl rfl ?_
          refine WP.iconst (pc' := 65) d_prog_7_method_26_64 rfl (z := 1) rfl ?_
          refine WP.iadd (pc' := 66) d_prog_7_method_26_65 rfl ?_
          refine WP.ialoadI (4 * I + 1) (pc' := 67) d_prog_7_method_26_66 rfl AS1 (adds m4 rfl (by omega)) (by omega) rfl ?_
          refine WP.aloadN (pc' := 68) d_prog_7_method_26_67 rfl rfl rfl ?_
          refine WP.getF (pc' := 71) d_prog_7_method_26_68 rfl (host := "") (Or.inl (wd70 hw)) Via.refl Fspans_1 ?_
          refine WP.iloadN (pc' := 72) d_prog_7_method_26_71 rfl rfl ?_
          refine WP.ialoadI (4 * I) (pc' := 73) d_prog_7_method_26_72 rfl AS1 m4 (by omega) rfl ?_
          refine WP.isub (pc' := 74) d_prog_7_method_26_73 rfl ?_
          refine WP.iconst (pc' := 75) d_prog_7_method_26_74 rfl (z := 2) rfl ?_
          refine WP.iadd (pc' := 76) d_prog_7_method_26_75 rfl ?_
          refine WP.aloadN (pc' := 77) d_prog_7_method_26_76 rfl rfl rfl ?_
          refine WP.getF (pc' := 80) d_prog_7_method_26_77 rfl (host := "") (Or.inl (wd70 hw)) Via.refl Fspans_1 ?_
          refine WP.iloadN (pc' := 81) d_prog_7_method_26_80 rfl rfl ?_
          refine WP.iconst (pc' := 82) d_prog_7_method_26_81 rfl (z := 3) rfl ?_
          refine WP.iadd (pc' := 83) d_prog_7_method_26_82 rfl ?_
          refine WP.ialoadI (4 * I + 3) (pc' := 84) d_prog_7_method_26_83 rfl AS1 (adds m4 rfl (by omega)) (by omega) rfl ?_
          refine WP.iadd (pc' := 85) d_prog_7_method_26_84 rfl ?_
          refine WP.aloadN (pc' := 86) d_prog_7_method_26_85 rfl rfl rfl ?_
          refine WP.getF (pc' := 89) d_prog_7_method_26_86 rfl (host := "") (Or.inl (wd70 hw)) Via.refl Fspans_1 ?_
          refine WP.iloadN (pc' := 90) d_prog_7_method_26_89 rfl rfl ?_
          refine WP.iconst (pc' := 91) d_prog_7_method_26_90 rfl (z := 2) rfl ?_
          refine WP.iadd (pc' := 92) d_prog_7_method_26_91 rfl ?_
          refine WP.ialoadI (4 * I + 2) (pc' := 93) d_prog_7_method_26_92 rfl AS1 (adds m4 rfl (by omega)) (by omega) rfl ?_
          refine WP.isub (pc' := 94) d_prog_7_method_26_93 rfl ?_
          refine WP.iconst (pc' := 95) d_prog_7_method_26_94 rfl (z := 2) rfl ?_
          refine WP.iadd (pc' := 96) d_prog_7_method_26_95 rfl ?_
          refine WP.iadd (pc' := 97) d_prog_7_method_26_96 rfl ?_
          refine WP.istoreN (pc' := 98) d_prog_7_method_26_97 rfl (Ls' := #[.val (.ref a), .val (.int ((sz e I) + ((((((e (4 * I + 1)) - (e (4 * I))) + (2 : Int32)) + (e (4 * I + 3))) - (e (4 * I + 2))) + (2 : Int32)))), .val (.int i), .val (.int (i * (4 : Int32)))]) rfl ?_
          refine WP.iinc (pc' := 101) d_prog_7_method_26_98 rfl rfl (z := (i + (1 : Int32))) rfl (Ls' := #[.val (.ref a), .val (.int ((sz e I) + ((((((e (4 * I + 1)) - (e (4 * I))) + (2 : Int32)) + (e (4 * I + 3))) - (e (4 * I + 2))) + (2 : Int32)))), .val (.int (i + (1 : Int32))), .val (.int (i * (4 : Int32)))]) rfl ?_
          refine WP.goto (pc' := 36) d_prog_7_method_26_101 (by decide) (by decide) ?_
          rw [sz_n hc55]
          exact IH (I + 1) _ _ (Or.inr ⟨_, rfl, rfl⟩) (adds hi rfl (by omega)) (by omega) (by omega)
  rw [show (0 - 0 + 8 + 6 + 3 : Int32) = sz e 0 from by show _ = (17 : Int32); decide]
  exact loop (F + 1) 0 0 _ (Or.inl rfl) rfl (by omega) (by omega)
theorem d_prog_7_method_47_0 : decode prog_7_method_47_code 0 = .ok (.aload_n 0, 1) := by decide +kernel
theorem d_prog_7_method_47_1 : decode prog_7_method_47_code 1 = .ok (.getfield 114, 3) := by decide +kernel
theorem wd90 {Z : State} {a0 : Array Value} (hw : ∀ d ∈ tables_1, d.before a0 Z = true) : (Jvm.Cond.fieldLink "com/example/vipool/vipool/http/HttpHead" (114 : Nat) "com/example/vipool/vipool/http/HttpHead" "used" "I").before a0 Z = true := hw _ (List.mem_of_getElem? (i := 90) rfl)
theorem d_prog_7_method_47_4 : decode prog_7_method_47_code 4 = .ok (.iload_n 1, 1) := by decide +kernel
theorem d_prog_7_method_47_5 : decode prog_7_method_47_code 5 = .ok (.iadd, 1) := by decide +kernel
theorem d_prog_7_method_47_6 : decode prog_7_method_47_code 6 = .ok (.aload_n 0, 1) := by decide +kernel
theorem d_prog_7_method_47_7 : decode prog_7_method_47_code 7 = .ok (.getfield 11, 3) := by decide +kernel
theorem d_prog_7_method_47_10 : decode prog_7_method_47_code 10 = .ok (.arraylength, 1) := by decide +kernel
theorem d_prog_7_method_47_11 : decode prog_7_method_47_code 11 = .ok (.if_icmp .le 28, 3) := by decide +kernel
theorem d_prog_7_method_47_39 : decode prog_7_method_47_code 39 = .ok (.return_, 1) := by decide +kernel
set_option maxRecDepth 65536 in
set_option maxHeartbeats 40000000 in
theorem m_room {Z : State} {a0 : Array Value} (hw : ∀ d ∈ tables_1, d.before a0 Z = true) (a : Addr) (q : Int32) (h0 : Heap) (n0 : Nat) (rw sp : Addr) (us fd : Int32) (g e : Nat → Int32) (R0 : Hh Z n0 h0 a rw sp us fd g e) (U n : Nat) (hU : us.toInt = (U : Int)) (hq : q.toInt = (n : Int)) (hs : U + n ≤ 512) : ∀ l, Does l Z (⟨"com/example/vipool/vipool/http/HttpHead", "room", "(I)V"⟩ : MethodName) prog_7_method_47_code 2 none ({ frames := 0, cells := 0, slots := 0, locals := 0 } : Room) n0 #[(.ref a), (.int q)] h0 (fun v h => v = none ∧ h = h0) := by
  intro l
  refine Does.of_wp (plainFor_of_name pn_5) (Ls := #[.val (.ref a), .val (.int q)]) (fun m => by first | (simp [entryFrame, mkF, argsToLocals, Value.category]; done) | rfl | (rcases ref_cases hfv with rfl | ⟨_, rfl⟩ <;> rfl)) ?_
  intro C
  obtain ⟨⟨ga1, gr1, gs1, nrs1, nra1, nsa1⟩, X1, ⟨Fraw_1, Fspans_1, Fused_1, Ffields_1, FsecondEnd_1, FsecondStart_1, Frequest_1⟩, AR1, AS1⟩ := id R0
  refine WP.aloadN (pc' := 1) d_prog_7_method_47_0 rfl rfl rfl ?_
  refine WP.getF (pc' := 4) d_prog_7_method_47_1 rfl (host := "") (Or.inl (wd90 hw)) Via.refl Fused_1 ?_
  refine WP.iloadN (pc' := 5) d_prog_7_method_47_4 rfl rfl ?_
  refine WP.iadd (pc' := 6) d_prog_7_method_47_5 rfl ?_
  refine WP.aloadN (pc' := 7) d_prog_7_method_47_6 rfl rfl rfl ?_
  refine WP.getF (pc' := 10) d_prog_7_method_47_7 rfl (host := "") (Or.inl (wd67 hw)) Via.refl Fraw_1 ?_
  refine WP.arraylengthI (z := (512 : Int32)) (pc' := 11) d_prog_7_method_47_10 rfl AR1 rfl ?_
  have hc11 : ¬ (512 : Int32) < (us + q) := by rw [Int32.lt_iff_toInt_lt]; have := adds hU hq (by omega); have e : (512 : Int32).toInt = 512 := rfl; omega
  refine WP.icmp_le (pc1 := 39) (pc2 := 14) d_prog_7_method_47_11 (by decide) (by decide) rfl (fun _ => ?_) (fun k => absurd k hc11)
  exact WP.vret d_prog_7_method_47_39 rfl (by decide) (by decide) ⟨rfl, rfl⟩
theorem d_prog_7_method_48_0 : decode prog_7_method_48_code 0 = .ok (.aload_n 0, 1) := by decide +kernel
theorem d_prog_7_method_48_1 : decode prog_7_method_48_code 1 = .ok (.aload_n 1, 1) := by decide +kernel
theorem d_prog_7_method_48_2 : decode prog_7_method_48_code 2 = .ok (.invokevirtual 276, 3) := by decide +kernel
theorem wd96 {Z : State} {a0 : Array Value} (hw : ∀ d ∈ tables_1, d.before a0 Z = true) : (Jvm.Cond.methodLink "com/example/vipool/vipool/http/HttpHead" (276 : Nat) ({ cls := "java/lang/String", name := "length", desc := "()I" } : Jvm.MethodName)).before a0 Z = true := hw _ (List.mem_of_getElem? (i := 96) rfl)
theorem wd100 {Z : State} {a0 : Array Value} (hw : ∀ d ∈ tables_1, d.before a0 Z = true) : (Jvm.Cond.code ({ cls := "java/lang/String", name := "length", desc := "()I" } : Jvm.MethodName) jdk_42_method_54_code (1 : Nat) (Option.some Jvm.ClassFile.FieldType.int)).before a0 Z = true := hw _ (List.mem_of_getElem? (i := 100) rfl)
theorem pd_16 : parseMethodDescriptor "()I" = some ⟨[], some .int⟩ := by decide +kernel
theorem wd99 {Z : State} {a0 : Array Value} (hw : ∀ d ∈ tables_1, d.before a0 Z = true) : (Jvm.Cond.selects "java/lang/String" ({ cls := "java/lang/String", name := "length", desc := "()I" } : Jvm.MethodName) ({ cls := "java/lang/String", name := "length", desc := "()I" } : Jvm.MethodName)).before a0 Z = true := hw _ (List.mem_of_getElem? (i := 99) rfl)
theorem wd97 {Z : State} {a0 : Array Value} (hw : ∀ d ∈ tables_1, d.before a0 Z = true) : (Jvm.Cond.declares ({ cls := "java/lang/String", name := "length", desc := "()I" } : Jvm.MethodName)).before a0 Z = true := hw _ (List.mem_of_getElem? (i := 97) rfl)
theorem wd98 {Z : State} {a0 : Array Value} (hw : ∀ d ∈ tables_1, d.before a0 Z = true) : (Jvm.Cond.instanceMethod ({ cls := "java/lang/String", name := "length", desc := "()I" } : Jvm.MethodName)).before a0 Z = true := hw _ (List.mem_of_getElem? (i := 98) rfl)
theorem d_prog_7_method_48_5 : decode prog_7_method_48_code 5 = .ok (.invokevirtual 228, 3) := by decide +kernel
theorem wd106 {Z : State} {a0 : Array Value} (hw : ∀ d ∈ tables_1, d.before a0 Z = true) : (Jvm.Cond.methodLink "com/example/vipool/vipool/http/HttpHead" (228 : Nat) ({ cls := "com/example/vipool/vipool/http/HttpHead", name := "room", desc := "(I)V" } : Jvm.MethodName)).before a0 Z = true := hw _ (List.mem_of_getElem? (i := 106) rfl)
theorem wd109 {Z : State} {a0 : Array Value} (hw : ∀ d ∈ tables_1, d.before a0 Z = true) : (Jvm.Cond.code ({ cls := "com/example/vipool/vipool/http/HttpHead", name := "room", desc := "(I)V" } : Jvm.MethodName) prog_7_method_47_code (2 : Nat) (Option.none : Option Jvm.ClassFile.FieldType)).before a0 Z = true := hw _ (List.mem_of_getElem? (i := 109) rfl)
theorem wd62 {Z : State} {a0 : Array Value} (hw : ∀ d ∈ tables_1, d.before a0 Z = true) : (Jvm.Cond.initialized "com/example/vipool/vipool/http/HttpHead").before a0 Z = true := hw _ (List.mem_of_getElem? (i := 62) rfl)
theorem pd_17 : parseMethodDescriptor "(I)V" = some ⟨[.int], none⟩ := by decide +kernel
theorem wd107 {Z : State} {a0 : Array Value} (hw : ∀ d ∈ tables_1, d.before a0 Z = true) : (Jvm.Cond.instanceMethod ({ cls := "com/example/vipool/vipool/http/HttpHead", name := "room", desc := "(I)V" } : Jvm.MethodName)).before a0 Z = true := hw _ (List.mem_of_getElem? (i := 107) rfl)
theorem wd75 {Z : State} {a0 : Array Value} (hw : ∀ d ∈ tables_1, d.before a0 Z = true) : (Jvm.Cond.selects "com/example/vipool/vipool/http/HttpHead" ({ cls := "com/example/vipool/vipool/http/HttpHead", name := "size", desc := "()I" } : Jvm.MethodName) ({ cls := "com/example/vipool/vipool/http/HttpHead", name := "size", desc := "()I" } : Jvm.MethodName)).before a0 Z = true := hw _ (List.mem_of_getElem? (i := 75) rfl)
theorem wd108 {Z : State} {a0 : Array Value} (hw : ∀ d ∈ tables_1, d.before a0 Z = true) : (Jvm.Cond.privateMethod ({ cls := "com/example/vipool/vipool/http/HttpHead", name := "room", desc := "(I)V" } : Jvm.MethodName)).before a0 Z = true := hw _ (List.mem_of_getElem? (i := 108) rfl)
theorem d_prog_7_method_48_8 : decode prog_7_method_48_code 8 = .ok (.iconst 0, 1) := by decide +kernel
theorem d_prog_7_method_48_9 : decode prog_7_method_48_code 9 = .ok (.istore_n 2, 1) := by decide +kernel
theorem d_prog_7_method_48_10 : decode prog_7_method_48_code 10 = .ok (.iload_n 2, 1) := by decide +kernel
theorem d_prog_7_method_48_11 : decode prog_7_method_48_code 11 = .ok (.aload_n 1, 1) := by decide +kernel
theorem d_prog_7_method_48_12 : decode prog_7_method_48_code 12 = .ok (.invokevirtual 276, 3) := by decide +kernel
theorem d_prog_7_method_48_15 : decode prog_7_method_48_code 15 = .ok (.if_icmp .ge 40, 3) := by decide +kernel
theorem d_prog_7_method_48_55 : decode prog_7_method_48_code 55 = .ok (.aload_n 0, 1) := by decide +kernel
theorem d_prog_7_method_48_56 : decode prog_7_method_48_code 56 = .ok (.dup, 1) := by decide +kernel
theorem d_prog_7_method_48_57 : decode prog_7_method_48_code 57 = .ok (.getfield 114, 3) := by decide +kernel
theorem d_prog_7_method_48_60 : decode prog_7_method_48_code 60 = .ok (.aload_n 1, 1) := by decide +kernel
theorem d_prog_7_method_48_61 : decode prog_7_method_48_code 61 = .ok (.invokevirtual 276, 3) := by decide +kernel
theorem d_prog_7_method_48_64 : decode prog_7_method_48_code 64 = .ok (.iadd, 1) := by decide +kernel
theorem d_prog_7_method_48_65 : decode prog_7_method_48_code 65 = .ok (.putfield 114, 3) := by decide +kernel
theorem d_prog_7_method_48_68 : decode prog_7_method_48_code 68 = .ok (.return_, 1) := by decide +kernel
theorem d_prog_7_method_48_18 : decode prog_7_method_48_code 18 = .ok (.aload_n 1, 1) := by decide +kernel
theorem d_prog_7_method_48_19 : decode prog_7_method_48_code 19 = .ok (.iload_n 2, 1) := by decide +kernel
theorem d_prog_7_method_48_20 : decode prog_7_method_48_code 20 = .ok (.invokevirtual 279, 3) := by decide +kernel
theorem wd110 {Z : State} {a0 : Array Value} (hw : ∀ d ∈ tables_1, d.before a0 Z = true) : (Jvm.Cond.methodLink "com/example/vipool/vipool/http/HttpHead" (279 : Nat) ({ cls := "java/lang/String", name := "charAt", desc := "(I)C" } : Jvm.MethodName)).before a0 Z = true := hw _ (List.mem_of_getElem? (i := 110) rfl)
theorem wd114 {Z : State} {a0 : Array Value} (hw : ∀ d ∈ tables_1, d.before a0 Z = true) : (Jvm.Cond.code ({ cls := "java/lang/String", name := "charAt", desc := "(I)C" } : Jvm.MethodName) jdk_42_method_56_code (2 : Nat) (Option.some Jvm.ClassFile.FieldType.char)).before a0 Z = true := hw _ (List.mem_of_getElem? (i := 114) rfl)
theorem wd113 {Z : State} {a0 : Array Value} (hw : ∀ d ∈ tables_1, d.before a0 Z = true) : (Jvm.Cond.selects "java/lang/String" ({ cls := "java/lang/String", name := "charAt", desc := "(I)C" } : Jvm.MethodName) ({ cls := "java/lang/String", name := "charAt", desc := "(I)C" } : Jvm.MethodName)).before a0 Z = true := hw _ (List.mem_of_getElem? (i := 113) rfl)
theorem wd111 {Z : State} {a0 : Array Value} (hw : ∀ d ∈ tables_1, d.before a0 Z = true) : (Jvm.Cond.declares ({ cls := "java/lang/String", name := "charAt", desc := "(I)C" } : Jvm.MethodName)).before a0 Z = true := hw _ (List.mem_of_getElem? (i := 111) rfl)
theorem wd112 {Z : State} {a0 : Array Value} (hw : ∀ d ∈ tables_1, d.before a0 Z = true) : (Jvm.Cond.instanceMethod ({ cls := "java/lang/String", name := "charAt", desc := "(I)C" } : Jvm.MethodName)).before a0 Z = true := hw _ (List.mem_of_getElem? (i := 112) rfl)
theorem d_prog_7_method_48_23 : decode prog_7_method_48_code 23 = .ok (.istore_n 3, 1) := by decide +kernel
theorem d_prog_7_method_48_24 : decode prog_7_method_48_code 24 = .ok (.aload_n 0, 1) := by decide +kernel
theorem d_prog_7_method_48_25 : decode prog_7_method_48_code 25 = .ok (.getfield 11, 3) := by decide +kernel
theorem d_prog_7_method_48_28 : decode prog_7_method_48_code 28 = .ok (.aload_n 0, 1) := by decide +kernel
theorem d_prog_7_method_48_29 : decode prog_7_method_48_code 29 = .ok (.getfield 114, 3) := by decide +kernel
theorem d_prog_7_method_48_32 : decode prog_7_method_48_code 32 = .ok (.iload_n 2, 1) := by decide +kernel
theorem d_prog_7_method_48_33 : decode prog_7_method_48_code 33 = .ok (.iadd, 1) := by decide +kernel
theorem d_prog_7_method_48_34 : decode prog_7_method_48_code 34 = .ok (.iload_n 3, 1) := by decide +kernel
theorem d_prog_7_method_48_35 : decode prog_7_method_48_code 35 = .ok (.sipush 255, 3) := by decide +kernel
theorem d_prog_7_method_48_38 : decode prog_7_method_48_code 38 = .ok (.if_icmp .gt 7, 3) := by decide +kernel
theorem d_prog_7_method_48_41 : decode prog_7_method_48_code 41 = .ok (.iload_n 3, 1) := by decide +kernel
theorem d_prog_7_method_48_42 : decode prog_7_method_48_code 42 = .ok (.goto 5, 3) := by decide +kernel
theorem d_prog_7_method_48_47 : decode prog_7_method_48_code 47 = .ok (.i2b, 1) := by decide +kernel
theorem d_prog_7_method_48_48 : decode prog_7_method_48_code 48 = .ok (.bastore, 1) := by decide +kernel
theorem d_prog_7_method_48_49 : decode prog_7_method_48_code 49 = .ok (.iinc 2 1, 3) := by decide +kernel
theorem d_prog_7_method_48_52 : decode prog_7_method_48_code 52 = .ok (.goto (-42), 3) := by decide +kernel
set_option maxRecDepth 65536 in
set_option maxHeartbeats 40000000 in
theorem m_put {Z : State} {a0 : Array Value} (hw : ∀ d ∈ tables_1, d.before a0 Z = true) (a : Addr) (s : Addr) (h0 : Heap) (n0 : Nat) (Z0 : n0 ≤ h0.size) (O0 : Old Z n0 h0) (cs : Int32) (S_CS : Sta Z Z.heap "java/lang/String" "COMPACT_STRINGS" "Z" (.int cs)) (hcs : ¬ cs = 0) (fv : Value) (hfv : fv.isRef = true) (S_FM : Sta Z Z.heap "jdk/internal/util/Preconditions" "SIOOBE_FORMATTER" "Ljava/util/function/BiFunction;" fv) (rw sp : Addr) (us fd : Int32) (g e : Nat → Int32) (R0 : Hh Z n0 h0 a rw sp us fd g e) (b : Addr) (n : Nat) (q : Nat → Int32) (sE : Exa Z h0 s "java/lang/String") (sV : Fld Z h0 s "java/lang/String" "value" "[B" (.ref b)) (sC : Fld Z h0 s "java/lang/String" "coder" "B" (.int 0)) (sA : Ari Z h0 b .byte n q) (n_sa : s ≠ a) (n_srw : s ≠ rw) (n_ssp : s ≠ sp) (n_ba : b ≠ a) (n_brw : b ≠ rw) (n_bsp : b ≠ sp) (U : Nat) (hU : us.toInt = (U : Int)) (hs : U + n ≤ 512) (hq : ∀ i, i < n → nar .byte (q i) = q i) : ∀ l, Does l Z (⟨"com/example/vipool/vipool/http/HttpHead", "put", "(Ljava/lang/String;)V"⟩ : MethodName) prog_7_method_48_code 4 none ({ frames := 4, cells := 0, slots := 0, locals := 53 } : Room) n0 #[(.ref a), (.ref s)] h0 (fun v h => v = none ∧ Keep h0 h [a, rw] ∧ Hh Z n0 h a rw sp (us + (n : Nat).toInt32) fd (lay g U n q) e) := by
  intro l
  refine Does.of_wp (plainFor_of_name pn_5) (Ls := #[.val (.ref a), .val (.ref s), .unset, .unset]) (fun m => by first | (simp [entryFrame, mkF, argsToLocals, Value.category]; done) | rfl | (rcases ref_cases hfv with rfl | ⟨_, rfl⟩ <;> rfl)) ?_
  intro C
  obtain ⟨⟨ga1, gr1, gs1, nrs1, nra1, nsa1⟩, X1, ⟨Fraw_1, Fspans_1, Fused_1, Ffields_1, FsecondEnd_1, FsecondStart_1, Frequest_1⟩, AR1, AS1⟩ := id R0
  have K0 := Keep.refl h0 [a, rw]
  refine WP.aloadN (pc' := 1) d_prog_7_method_48_0 rfl rfl rfl ?_
  refine WP.aloadN (pc' := 2) d_prog_7_method_48_1 rfl rfl rfl ?_
  refine WP.callV (a := s) (K := "java/lang/String") (argsL := []) (rest := [(.ref a)]) (wd := 1) (cl' := 0) (sl' := 0) (pc' := 5) d_prog_7_method_48_2 rfl (wd96 hw) (wd97 hw) (nfS (wd99 hw) rfl) (wd99 hw) (wd98 hw) (wd12 hw) (wd100 hw) (by decide) sE (s_len hw s h0 n0 sE sC cs (S_CS.ext O0.2) hcs b sV n q sA (by omega)) pd_16 rfl rfl rfl (Nat.le_of_eq rfl) (by decide) (by decide) rfl rfl (by decide) (by decide) ?_
  rintro v hh2 ⟨rfl, he2⟩
  rw [he2]
  refine WP.castS (st' := [(.int (n : Nat).toInt32), (.ref a)]) rfl ?_
  refine WP.callP (a := a) (argsL := [(.int (n : Nat).toInt32)]) (rest := []) (wd := 0) (cl' := 0) (sl' := 0) (pc' := 8) d_prog_7_method_48_5 rfl (wd106 hw) (wd107 hw) (selPriv (wd75 hw) rfl (wd108 hw) (wd107 hw) (by decide)) (wd108 hw) (wd62 hw) (wd109 hw) (by decide) R0.2.1 (m_room hw a (n : Nat).toInt32 h0 n0 rw sp us fd g e R0 U n hU (natI (by omega)) hs) pd_17 rfl rfl rfl (Nat.le_of_eq rfl) (by decide) (by decide) rfl rfl (by decide) (by decide) ?_
  rintro v hh3 ⟨rfl, he3⟩
  rw [he3]
  refine WP.castS (st' := []) rfl ?_
  refine WP.iconst (pc' := 9) d_prog_7_method_48_8 rfl (z := 0) rfl ?_
  refine WP.istoreN (pc' := 10) d_prog_7_method_48_9 rfl (Ls' := #[.val (.ref a), .val (.ref s), .val (.int (0 : Int32)), .unset]) rfl ?_
  have loop : ∀ (k I : Nat) (i : Int32) (s3 : Slot) (hh : Heap) (G : Nat → Int32), (s3 = .unset ∨ ∃ u, s3 = .val u ∧ u.category = 1) → i.toInt = (I : Int) → I ≤ n → n - I < k → Keep h0 hh [rw] → Ari Z hh rw .byte 512 G → (∀ j, j < 512 → G j = lay g U I q j) → WP C Z prog_7_method_48_code 4 "com/example/vipool/vipool/http/HttpHead" none "put" ({ frames := 4, cells := 0, slots := 0, locals := 53 } : Room) n0 (fun v h => v = none ∧ Keep h0 h [a, rw] ∧ Hh Z n0 h a rw sp (us + (n : Nat).toInt32) fd (lay g U n q) e) 0 0 hh 10 #[.val (.ref a), .val (.ref s), .val (.int i), s3] [] := by
    intro k
    induction k with
    | zero => intro I i s3 hh G h1 h2 h3; omega
    | succ k IH =>
      intro I i s3 hh G hs3 hi hI hk K1 AG hG
      have E4 := X1.keep K1
      have F5 := Fraw_1.keep K1 (ninS (Ne.symm nra1) nin0)
      have F6 := Fspans_1.keep K1 (ninS (Ne.symm nra1) nin0)
      have F7 := Fused_1.keep K1 (ninS (Ne.symm nra1) nin0)
      have F8 := Ffields_1.keep K1 (ninS (Ne.symm nra1) nin0)
      have F9 := FsecondEnd_1.keep K1 (ninS (Ne.symm nra1) nin0)
      have F10 := FsecondStart_1.keep K1 (ninS (Ne.symm nra1) nin0)
      have F11 := Frequest_1.keep K1 (ninS (Ne.symm nra1) nin0)
      have V12 := AS1.keep K1 (ninS (Ne.symm nrs1) nin0)
      have E13 := sE.keep K1
      have F14 := sV.keep K1 (ninS n_srw nin0)
      have F15 := sC.keep K1 (ninS n_srw nin0)
      have V16 := sA.keep K1 (ninS n_brw nin0)
      have O17 := O0.keep K1 (allS gr1 all0)
      have Z18 : n0 ≤ hh.size := Nat.le_trans Z0 K1.1
      have K2 : Keep h0 hh [a, rw] := (Keep.refl h0 [a, rw]).trans K1 (allS (Or.inl (by simp)) all0)
      refine WP.iloadN (pc' := 11) d_prog_7_method_48_10 rfl rfl ?_
      refine WP.aloadN (pc' := 12) d_prog_7_method_48_11 rfl rfl rfl ?_
      refine WP.callV (a := s) (K := "java/lang/String") (argsL := []) (rest := [(.int i)]) (wd := 1) (cl' := 0) (sl' := 0) (pc' := 15) d_prog_7_method_48_12 rfl (wd96 hw) (wd97 hw) (nfS (wd99 hw) rfl) (wd99 hw) (wd98 hw) (wd12 hw) (wd100 hw) (by decide) E13 (s_len hw s hh n0 E13 F15 cs (S_CS.ext O17.2) hcs b F14 n q V16 (by omega)) pd_16 rfl rfl rfl (Nat.le_of_eq rfl) (by decide) (by decide) rfl rfl (by decide) (by decide) ?_
      rintro v hh19 ⟨rfl, he19⟩
      rw [he19]
      refine WP.castS (st' := [(.int (n : Nat).toInt32), (.int i)]) rfl ?_
      refine WP.icmp_ge (pc1 := 55) (pc2 := 18) d_prog_7_method_48_15 (by decide) (by decide) rfl ?_ ?_
      · intro hc15
        refine WP.aloadN (pc' := 56) d_prog_7_method_48_55 rfl rfl rfl ?_
        refine WP.dup (pc' := 57) d_prog_7_method_48_56 rfl rfl ?_
        refine WP.getF (pc' := 60) d_prog_7_method_48_57 rfl (host := "") (Or.inl (wd90 hw)) Via.refl F7 ?_
        refine WP.aloadN (pc' := 61) d_prog_7_method_48_60 rfl rfl rfl ?_
        refine WP.callV (a := s) (K := "java/lang/String") (argsL := []) (rest := [(.int us), (.ref a)]) (wd := 2) (cl' := 0) (sl' := 0) (pc' := 64) d_prog_7_method_48_61 rfl (wd96 hw) (wd97 hw) (nfS (wd99 hw) rfl) (wd99 hw) (wd98 hw) (wd12 hw) (wd100 hw) (by decide) E13 (s_len hw s hh n0 E13 F15 cs (S_CS.ext O17.2) hcs b F14 n q V16 (by omega)) pd_16 rfl rfl rfl (Nat.le_of_eq rfl) (by decide) (by decide) rfl rfl (by decide) (by decide) ?_
        rintro v hh20 ⟨rfl, he20⟩
        rw [he20]
        refine WP.castS (st' := [(.int (n : Nat).toInt32), (.int us), (.ref a)]) rfl ?_
        refine WP.iadd (pc' := 65) d_prog_7_method_48_64 rfl ?_
        refine WP.putF (pc' := 68) d_prog_7_method_48_65 rfl (host := "") (Or.inl (wd90 hw)) Via.refl F7 E4 (Or.inl (wd91 hw)) (wd61 hw) (ty := .int) (by decide) rfl rfl ga1 ?_
        intro h21 W22
        have Kw23 := Keep.of_wr W22
        have E24 := E4.keep Kw23
        have V25 := V12.keep Kw23 (ninS nsa1 nin0)
        have E26 := E13.keep Kw23
        have F27 := F14.keep Kw23 (ninS n_sa nin0)
        have F28 := F15.keep Kw23 (ninS n_sa nin0)
        have V29 := V16.keep Kw23 (ninS n_ba nin0)
        have V30 := AG.keep Kw23 (ninS nra1 nin0)
        have O31 := O17.keep Kw23 (allS ga1 all0)
        have K32 := K2.trans Kw23 (allS (Or.inl (by simp)) all0)
        have Z33 : n0 ≤ h21.size := Nat.le_trans Z18 Kw23.1
        have F34 := F5.other W22 (Or.inr (slot_ne (Or.inl (wd68 hw)) (Or.inl (wd91 hw)) (by decide) (t := (.array .byte)) (t' := .int) (by decide) (by decide)))
        have F35 := F6.other W22 (Or.inr (slot_ne (Or.inl (wd71 hw)) (Or.inl (wd91 hw)) (by decide) (t := (.array .int)) (t' := .int) (by decide) (by decide)))
        have F36 := F7.same W22
        have F37 := F8.other W22 (Or.inr (slot_ne (Or.inl (wd84 hw)) (Or.inl (wd91 hw)) (by decide) (t := .int) (t' := .int) (by decide) (by decide)))
        have F38 := F9.other W22 (Or.inr (slot_ne (Or.inl (wd78 hw)) (Or.inl (wd91 hw)) (by decide) (t := .int) (t' := .int) (by decide) (by decide)))
        have F39 := F10.other W22 (Or.inr (slot_ne (Or.inl (wd80 hw)) (Or.inl (wd91 hw)) (by decide) (t := .int) (t' := .int) (by decide) (by decide)))
        have F40 := F11.other W22 (Or.inr (slot_ne (Or.inl (wd82 hw)) (Or.inl (wd91 hw)) (by decide) (t := .boolean) (t' := .int) (by decide) (by decide)))
        exact WP.vret d_prog_7_method_48_68 rfl (by decide) (by decide) ⟨rfl, K32, ⟨⟨ga1, gr1, gs1, nrs1, nra1, nsa1⟩, E24, ⟨F34, F35, F36, F37, F38, F39, F40⟩, (V30.congr fun j hj => by rw [hG j hj, show I = n by rw [Int32.lt_iff_toInt_lt, natI (by omega)] at hc15; omega]), V25⟩⟩
      · intro hc15
        have lt1 : I < n := by rw [Int32.lt_iff_toInt_lt, natI (by omega)] at hc15; omega
        refine WP.aloadN (pc' := 19) d_prog_7_method_48_18 rfl rfl rfl ?_
        refine WP.iloadN (pc' := 20) d_prog_7_method_48_19 rfl rfl ?_
        refine WP.callV (a := s) (K := "java/lang/String") (argsL := [(.int i)]) (rest := []) (wd := 0) (cl' := 0) (sl' := 0) (pc' := 23) d_prog_7_method_48_20 rfl (wd110 hw) (wd111 hw) (nfS (wd113 hw) rfl) (wd113 hw) (wd112 hw) (wd12 hw) (wd114 hw) (by decide) E13 (s_cha hw s i hh n0 E13 F15 cs (S_CS.ext O17.2) hcs b F14 n q V16 (by omega) fv hfv (S_FM.ext O17.2) I hi lt1) pd_14 rfl rfl rfl (Nat.le_of_eq rfl) (by decide) (by decide) rfl rfl (by decide) (by decide) ?_
        rintro v hh41 ⟨rfl, he41⟩
        rw [he41]
        refine WP.castS (st' := [(.int (chv (q I)))]) rfl ?_
        refine WP.istoreN (pc' := 24) d_prog_7_method_48_23 rfl (Ls' := #[.val (.ref a), .val (.ref s), .val (.int i), .val (.int (chv (q I)))]) (XS.store1 rfl hs3 rfl) ?_
        refine WP.aloadN (pc' := 25) d_prog_7_method_48_24 rfl rfl rfl ?_
        refine WP.getF (pc' := 28) d_prog_7_method_48_25 rfl (host := "") (Or.inl (wd67 hw)) Via.refl F5 ?_
        refine WP.aloadN (pc' := 29) d_prog_7_method_48_28 rfl rfl rfl ?_
        refine WP.getF (pc' := 32) d_prog_7_method_48_29 rfl (host := "") (Or.inl (wd90 hw)) Via.refl F7 ?_
        refine WP.iloadN (pc' := 33) d_prog_7_method_48_32 rfl rfl ?_
        refine WP.iadd (pc' := 34) d_prog_7_method_48_33 rfl ?_
        refine WP.iloadN (pc' := 35) d_prog_7_method_48_34 rfl rfl ?_
        refine WP.sipush (pc' := 38) d_prog_7_method_48_35 rfl (z := 255) rfl ?_
        have hc38 : ¬ (255 : Int32) < (chv (q I)) := by rw [Int32.lt_iff_toInt_lt]; have := (chv_le (q I)).2; have e : (255 : Int32).toInt = 255 := rfl; omega
        refine WP.icmp_gt (pc1 := 45) (pc2 := 41) d_prog_7_method_48_38 (by decide) (by decide) rfl (fun k => absurd k hc38) (fun _ => ?_)
        refine WP.iloadN (pc' := 42) d_prog_7_method_48_41 rfl rfl ?_
        refine WP.goto (pc' := 47) d_prog_7_method_48_42 (by decide) (by decide) ?_
        refine WP.i2b (pc' := 48) d_prog_7_method_48_47 rfl ?_
        refine WP.bastoreI (x' := (q I)) (U + I) (pc' := 49) d_prog_7_method_48_48 rfl AG (adds hU hi (by omega)) (by omega) gr1 (back8 (hq I lt1)) ?_
        intro h42 K43 A44
        have E45 := E4.keep K43
        have F46 := F5.keep K43 (ninS (Ne.symm nra1) nin0)
        have F47 := F6.keep K43 (ninS (Ne.symm nra1) nin0)
        have F48 := F7.keep K43 (ninS (Ne.symm nra1) nin0)
        have F49 := F8.keep K43 (ninS (Ne.symm nra1) nin0)
        have F50 := F9.keep K43 (ninS (Ne.symm nra1) nin0)
        have F51 := F10.keep K43 (ninS (Ne.symm nra1) nin0)
        have F52 := F11.keep K43 (ninS (Ne.symm nra1) nin0)
        have V53 := V12.keep K43 (ninS (Ne.symm nrs1) nin0)
        have E54 := E13.keep K43
        have F55 := F14.keep K43 (ninS n_srw nin0)
        have F56 := F15.keep K43 (ninS n_srw nin0)
        have V57 := V16.keep K43 (ninS n_brw nin0)
        have O58 := O17.keep K43 (allS gr1 all0)
        have K59 := K2.trans K43 (allS (Or.inl (by simp)) all0)
        have Z60 : n0 ≤ h42.size := Nat.le_trans Z18 K43.1
        refine WP.iinc (pc' := 52) d_prog_7_method_48_49 rfl rfl (z := (i + (1 : Int32))) rfl (Ls' := #[.val (.ref a), .val (.ref s), .val (.int (i + (1 : Int32))), .val (.int (chv (q I)))]) rfl ?_
        refine WP.goto (pc' := 10) d_prog_7_method_48_52 (by decide) (by decide) ?_
        exact IH (I + 1) _ _ _ _ (Or.inr ⟨_, rfl, rfl⟩) (adds hi rfl (by omega)) (by omega) (by omega) (K1.trans K43 (allS (Or.inl (by simp)) all0)) A44 (lay_step rfl hG)
  exact loop (n + 1) 0 0 _ h0 g (Or.inl rfl) rfl (by omega) (by omega) (Keep.refl _ _) AR1 fun j _ => (lay0 g U q j).symm
def sp4 (e : Nat → Int32) (F : Nat) (p1 p2 p3 p4 : Int32) : Nat → Int32 := updI (updI (updI (updI e (4 * F) p1) (4 * F + 1) p2) (4 * F + 2) p3) (4 * F + 3) p4
theorem sp4_0 (e : Nat → Int32) (F : Nat) (p1 p2 p3 p4 : Int32) : sp4 e F p1 p2 p3 p4 (4 * F) = p1 := by unfold sp4; rw [upd_ne (by omega), upd_ne (by omega), upd_ne (by omega), upd_at]
theorem sp4_1 (e : Nat → Int32) (F : Nat) (p1 p2 p3 p4 : Int32) : sp4 e F p1 p2 p3 p4 (4 * F + 1) = p2 := by unfold sp4; rw [upd_ne (by omega), upd_ne (by omega), upd_at]
theorem sp4_2 (e : Nat → Int32) (F : Nat) (p1 p2 p3 p4 : Int32) : sp4 e F p1 p2 p3 p4 (4 * F + 2) = p3 := by unfold sp4; rw [upd_ne (by omega), upd_at]
theorem sp4_3 (e : Nat → Int32) (F : Nat) (p1 p2 p3 p4 : Int32) : sp4 e F p1 p2 p3 p4 (4 * F + 3) = p4 := by unfold sp4; rw [upd_at]
theorem sp4_n (e : Nat → Int32) (F : Nat) (p1 p2 p3 p4 : Int32) {k : Nat} (h : k < 4 * F) : sp4 e F p1 p2 p3 p4 k = e k := by unfold sp4; rw [upd_ne (by omega), upd_ne (by omega), upd_ne (by omega), upd_ne (by omega)]
theorem d_prog_7_method_35_0 : decode prog_7_method_35_code 0 = .ok (.aload_n 0, 1) := by decide +kernel
theorem d_prog_7_method_35_1 : decode prog_7_method_35_code 1 = .ok (.getfield 117, 3) := by decide +kernel
theorem d_prog_7_method_35_4 : decode prog_7_method_35_code 4 = .ok (.iconst 4, 1) := by decide +kernel
theorem d_prog_7_method_35_5 : decode prog_7_method_35_code 5 = .ok (.imul, 1) := by decide +kernel
theorem d_prog_7_method_35_6 : decode prog_7_method_35_code 6 = .ok (.aload_n 0, 1) := by decide +kernel
theorem d_prog_7_method_35_7 : decode prog_7_method_35_code 7 = .ok (.getfield 15, 3) := by decide +kernel
theorem d_prog_7_method_35_10 : decode prog_7_method_35_code 10 = .ok (.arraylength, 1) := by decide +kernel
theorem d_prog_7_method_35_11 : decode prog_7_method_35_code 11 = .ok (.if_icmp .ne 21, 3) := by decide +kernel
theorem d_prog_7_method_35_32 : decode prog_7_method_35_code 32 = .ok (.aload_n 0, 1) := by decide +kernel
theorem d_prog_7_method_35_33 : decode prog_7_method_35_code 33 = .ok (.getfield 117, 3) := by decide +kernel
theorem d_prog_7_method_35_36 : decode prog_7_method_35_code 36 = .ok (.iconst 4, 1) := by decide +kernel
theorem d_prog_7_method_35_37 : decode prog_7_method_35_code 37 = .ok (.imul, 1) := by decide +kernel
theorem d_prog_7_method_35_38 : decode prog_7_method_35_code 38 = .ok (.istore 5, 2) := by decide +kernel
theorem d_prog_7_method_35_40 : decode prog_7_method_35_code 40 = .ok (.aload_n 0, 1) := by decide +kernel
theorem d_prog_7_method_35_41 : decode prog_7_method_35_code 41 = .ok (.getfield 15, 3) := by decide +kernel
theorem d_prog_7_method_35_44 : decode prog_7_method_35_code 44 = .ok (.iload 5, 2) := by decide +kernel
theorem d_prog_7_method_35_46 : decode prog_7_method_35_code 46 = .ok (.iload_n 1, 1) := by decide +kernel
theorem d_prog_7_method_35_47 : decode prog_7_method_35_code 47 = .ok (.iastore, 1) := by decide +kernel
theorem d_prog_7_method_35_48 : decode prog_7_method_35_code 48 = .ok (.aload_n 0, 1) := by decide +kernel
theorem d_prog_7_method_35_49 : decode prog_7_method_35_code 49 = .ok (.getfield 15, 3) := by decide +kernel
theorem d_prog_7_method_35_52 : decode prog_7_method_35_code 52 = .ok (.iload 5, 2) := by decide +kernel
theorem d_prog_7_method_35_54 : decode prog_7_method_35_code 54 = .ok (.iconst 1, 1) := by decide +kernel
theorem d_prog_7_method_35_55 : decode prog_7_method_35_code 55 = .ok (.iadd, 1) := by decide +kernel
theorem d_prog_7_method_35_56 : decode prog_7_method_35_code 56 = .ok (.iload_n 2, 1) := by decide +kernel
theorem d_prog_7_method_35_57 : decode prog_7_method_35_code 57 = .ok (.iastore, 1) := by decide +kernel
theorem d_prog_7_method_35_58 : decode prog_7_method_35_code 58 = .ok (.aload_n 0, 1) := by decide +kernel
theorem d_prog_7_method_35_59 : decode prog_7_method_35_code 59 = .ok (.getfield 15, 3) := by decide +kernel
theorem d_prog_7_method_35_62 : decode prog_7_method_35_code 62 = .ok (.iload 5, 2) := by decide +kernel
theorem d_prog_7_method_35_64 : decode prog_7_method_35_code 64 = .ok (.iconst 2, 1) := by decide +kernel
theorem d_prog_7_method_35_65 : decode prog_7_method_35_code 65 = .ok (.iadd, 1) := by decide +kernel
theorem d_prog_7_method_35_66 : decode prog_7_method_35_code 66 = .ok (.iload_n 3, 1) := by decide +kernel
theorem d_prog_7_method_35_67 : decode prog_7_method_35_code 67 = .ok (.iastore, 1) := by decide +kernel
theorem d_prog_7_method_35_68 : decode prog_7_method_35_code 68 = .ok (.aload_n 0, 1) := by decide +kernel
theorem d_prog_7_method_35_69 : decode prog_7_method_35_code 69 = .ok (.getfield 15, 3) := by decide +kernel
theorem d_prog_7_method_35_72 : decode prog_7_method_35_code 72 = .ok (.iload 5, 2) := by decide +kernel
theorem d_prog_7_method_35_74 : decode prog_7_method_35_code 74 = .ok (.iconst 3, 1) := by decide +kernel
theorem d_prog_7_method_35_75 : decode prog_7_method_35_code 75 = .ok (.iadd, 1) := by decide +kernel
theorem d_prog_7_method_35_76 : decode prog_7_method_35_code 76 = .ok (.iload 4, 2) := by decide +kernel
theorem d_prog_7_method_35_78 : decode prog_7_method_35_code 78 = .ok (.iastore, 1) := by decide +kernel
theorem d_prog_7_method_35_79 : decode prog_7_method_35_code 79 = .ok (.aload_n 0, 1) := by decide +kernel
theorem d_prog_7_method_35_80 : decode prog_7_method_35_code 80 = .ok (.dup, 1) := by decide +kernel
theorem d_prog_7_method_35_81 : decode prog_7_method_35_code 81 = .ok (.getfield 117, 3) := by decide +kernel
theorem d_prog_7_method_35_84 : decode prog_7_method_35_code 84 = .ok (.iconst 1, 1) := by decide +kernel
theorem d_prog_7_method_35_85 : decode prog_7_method_35_code 85 = .ok (.iadd, 1) := by decide +kernel
theorem d_prog_7_method_35_86 : decode prog_7_method_35_code 86 = .ok (.putfield 117, 3) := by decide +kernel
theorem d_prog_7_method_35_89 : decode prog_7_method_35_code 89 = .ok (.return_, 1) := by decide +kernel
set_option maxRecDepth 65536 in
set_option maxHeartbeats 40000000 in
theorem m_span {Z : State} {a0 : Array Value} (hw : ∀ d ∈ tables_1, d.before a0 Z = true) (a : Addr) (p1 : Int32) (p2 : Int32) (p3 : Int32) (p4 : Int32) (h0 : Heap) (n0 : Nat) (Z0 : n0 ≤ h0.size) (O0 : Old Z n0 h0) (rw sp : Addr) (us fd : Int32) (g e : Nat → Int32) (R0 : Hh Z n0 h0 a rw sp us fd g e) (F : Nat) (hF : fd.toInt = (F : Int)) (hF7 : F ≤ 6) : ∀ l, Does l Z (⟨"com/example/vipool/vipool/http/HttpHead", "span", "(IIII)V"⟩ : MethodName) prog_7_method_35_code 6 none ({ frames := 0, cells := 0, slots := 0, locals := 0 } : Room) n0 #[(.ref a), (.int p1), (.int p2), (.int p3), (.int p4)] h0 (fun v h => v = none ∧ Keep h0 h [a, sp] ∧ Hh Z n0 h a rw sp us (fd + 1) g (sp4 e F p1 p2 p3 p4)) := by
  intro l
  refine Does.of_wp (plainFor_of_name pn_5) (Ls := #[.val (.ref a), .val (.int p1), .val (.int p2), .val (.int p3), .val (.int p4), .unset]) (fun m => by first | (simp [entryFrame, mkF, argsToLocals, Value.category]; done) | rfl | (rcases ref_cases hfv with rfl | ⟨_, rfl⟩ <;> rfl)) ?_
  intro C
  obtain ⟨⟨ga1, gr1, gs1, nrs1, nra1, nsa1⟩, X1, ⟨Fraw_1, Fspans_1, Fused_1, Ffields_1, FsecondEnd_1, FsecondStart_1, Frequest_1⟩, AR1, AS1⟩ := id R0
  have K0 := Keep.refl h0 [a, sp]
  have m4 := mul4 hF (by omega)
  refine WP.aloadN (pc' := 1) d_prog_7_method_35_0 rfl rfl rfl ?_
  refine WP.getF (pc' := 4) d_prog_7_method_35_1 rfl (host := "") (Or.inl (wd83 hw)) Via.refl Ffields_1 ?_
  refine WP.iconst (pc' := 5) d_prog_7_method_35_4 rfl (z := 4) rfl ?_
  refine WP.imul (pc' := 6) d_prog_7_method_35_5 rfl ?_
  refine WP.aloadN (pc' := 7) d_prog_7_method_35_6 rfl rfl rfl ?_
  refine WP.getF (pc' := 10) d_prog_7_method_35_7 rfl (host := "") (Or.inl (wd70 hw)) Via.refl Fspans_1 ?_
  refine WP.arraylengthI (z := (32 : Int32)) (pc' := 11) d_prog_7_method_35_10 rfl AS1 rfl ?_
  have hc11 : ¬ (fd * (4 : Int32)) = (32 : Int32) := mul4_32 hF (by omega)
  refine WP.icmp_ne (pc1 := 32) (pc2 := 14) d_prog_7_method_35_11 (by decide) (by decide) rfl (fun _ => ?_) (fun k => absurd k hc11)
  refine WP.aloadN (pc' := 33) d_prog_7_method_35_32 rfl rfl rfl ?_
  refine WP.getF (pc' := 36) d_prog_7_method_35_33 rfl (host := "") (Or.inl (wd83 hw)) Via.refl Ffields_1 ?_
  refine WP.iconst (pc' := 37) d_prog_7_method_35_36 rfl (z := 4) rfl ?_
  refine WP.imul (pc' := 38) d_prog_7_method_35_37 rfl ?_
  refine WP.istore (pc' := 40) d_prog_7_method_35_38 rfl (Ls' := #[.val (.ref a), .val (.int p1), .val (.int p2), .val (.int p3), .val (.int p4), .val (.int (fd * (4 : Int32)))]) rfl ?_
  refine WP.aloadN (pc' := 41) d_prog_7_method_35_40 rfl rfl rfl ?_
  refine WP.getF (pc' := 44) d_prog_7_method_35_41 rfl (host := "") (Or.inl (wd70 hw)) Via.refl Fspans_1 ?_
  refine WP.iload (pc' := 46) d_prog_7_method_35_44 rfl rfl ?_
  refine WP.iloadN (pc' := 47) d_prog_7_method_35_46 rfl rfl ?_
  refine WP.iastoreI (x' := p1) (4 * F) (pc' := 48) d_prog_7_method_35_47 rfl AS1 m4 (by omega) gs1 rfl ?_
  intro h2 K3 A4
  have E5 := X1.keep K3
  have F6 := Fraw_1.keep K3 (ninS (Ne.symm nsa1) nin0)
  have F7 := Fspans_1.keep K3 (ninS (Ne.symm nsa1) nin0)
  have F8 := Fused_1.keep K3 (ninS (Ne.symm nsa1) nin0)
  have F9 := Ffields_1.keep K3 (ninS (Ne.symm nsa1) nin0)
  have F10 := FsecondEnd_1.keep K3 (ninS (Ne.symm nsa1) nin0)
  have F11 := FsecondStart_1.keep K3 (ninS (Ne.symm nsa1) nin0)
  have F12 := Frequest_1.keep K3 (ninS (Ne.symm nsa1) nin0)
  have V13 := AR1.keep K3 (ninS nrs1 nin0)
  have O14 := O0.keep K3 (allS gs1 all0)
  have K15 := K0.trans K3 (allS (Or.inl (by simp)) all0)
  have Z16 : n0 ≤ h2.size := Nat.le_trans Z0 K3.1
  refine WP.aloadN (pc' := 49) d_prog_7_method_35_48 rfl rfl rfl ?_
  refine WP.getF (pc' := 52) d_prog_7_method_35_49 rfl (host := "") (Or.inl (wd70 hw)) Via.refl F7 ?_
  refine WP.iload (pc' := 54) d_prog_7_method_35_52 rfl rfl ?_
  refine WP.iconst (pc' := 55) d_prog_7_method_35_54 rfl (z := 1) rfl ?_
  refine WP.iadd (pc' := 56) d_prog_7_method_35_55 rfl ?_
  refine WP.iloadN (pc' := 57) d_prog_7_method_35_56 rfl rfl ?_
  refine WP.iastoreI (x' := p2) (4 * F + 1) (pc' := 58) d_prog_7_method_35_57 rfl A4 (adds m4 rfl (by omega)) (by omega) gs1 rfl ?_
  intro h17 K18 A19
  have E20 := E5.keep K18
  have F21 := F6.keep K18 (ninS (Ne.symm nsa1) nin0)
  have F22 := F7.keep K18 (ninS (Ne.symm nsa1) nin0)
  have F23 := F8.keep K18 (ninS (Ne.symm nsa1) nin0)
  have F24 := F9.keep K18 (ninS (Ne.symm nsa1) nin0)
  have F25 := F10.keep K18 (ninS (Ne.symm nsa1) nin0)
  have F26 := F11.keep K18 (ninS (Ne.symm nsa1) nin0)
  have F27 := F12.keep K18 (ninS (Ne.symm nsa1) nin0)
  have V28 := V13.keep K18 (ninS nrs1 nin0)
  have O29 := O14.keep K18 (allS gs1 all0)
  have K30 := K15.trans K18 (allS (Or.inl (by simp)) all0)
  have Z31 : n0 ≤ h17.size := Nat.le_trans Z16 K18.1
  refine WP.aloadN (pc' := 59) d_prog_7_method_35_58 rfl rfl rfl ?_
  refine WP.getF (pc' := 62) d_prog_7_method_35_59 rfl (host := "") (Or.inl (wd70 hw)) Via.refl F22 ?_
  refine WP.iload (pc' := 64) d_prog_7_method_35_62 rfl rfl ?_
  refine WP.iconst (pc' := 65) d_prog_7_method_35_64 rfl (z := 2) rfl ?_
  refine WP.iadd (pc' := 66) d_prog_7_method_35_65 rfl ?_
  refine WP.iloadN (pc' := 67) d_prog_7_method_35_66 rfl rfl ?_
  refine WP.iastoreI (x' := p3) (4 * F + 2) (pc' := 68) d_prog_7_method_35_67 rfl A19 (adds m4 rfl (by omega)) (by omega) gs1 rfl ?_
  intro h32 K33 A34
  have E35 := E20.keep K33
  have F36 := F21.keep K33 (ninS (Ne.symm nsa1) nin0)
  have F37 := F22.keep K33 (ninS (Ne.symm nsa1) nin0)
  have F38 := F23.keep K33 (ninS (Ne.symm nsa1) nin0)
  have F39 := F24.keep K33 (ninS (Ne.symm nsa1) nin0)
  have F40 := F25.keep K33 (ninS (Ne.symm nsa1) nin0)
  have F41 := F26.keep K33 (ninS (Ne.symm nsa1) nin0)
  have F42 := F27.keep K33 (ninS (Ne.symm nsa1) nin0)
  have V43 := V28.keep K33 (ninS nrs1 nin0)
  have O44 := O29.keep K33 (allS gs1 all0)
  have K45 := K30.trans K33 (allS (Or.inl (by simp)) all0)
  have Z46 : n0 ≤ h32.size := Nat.le_trans Z31 K33.1
  refine WP.aloadN (pc' := 69) d_prog_7_method_35_68 rfl rfl rfl ?_
  refine WP.getF (pc' := 72) d_prog_7_method_35_69 rfl (host := "") (Or.inl (wd70 hw)) Via.refl F37 ?_
  refine WP.iload (pc' := 74) d_prog_7_method_35_72 rfl rfl ?_
  refine WP.iconst (pc' := 75) d_prog_7_method_35_74 rfl (z := 3) rfl ?_
  refine WP.iadd (pc' := 76) d_prog_7_method_35_75 rfl ?_
  refine WP.iload (pc' := 78) d_prog_7_method_35_76 rfl rfl ?_
  refine WP.iastoreI (x' := p4) (4 * F + 3) (pc' := 79) d_prog_7_method_35_78 rfl A34 (adds m4 rfl (by omega)) (by omega) gs1 rfl ?_
  intro h47 K48 A49
  have E50 := E35.keep K48
  have F51 := F36.keep K48 (ninS (Ne.symm nsa1) nin0)
  have F52 := F37.keep K48 (ninS (Ne.symm nsa1) nin0)
  have F53 := F38.keep K48 (ninS (Ne.symm nsa1) nin0)
  have F54 := F39.keep K48 (ninS (Ne.symm nsa1) nin0)
  have F55 := F40.keep K48 (ninS (Ne.symm nsa1) nin0)
  have F56 := F41.keep K48 (ninS (Ne.symm nsa1) nin0)
  have F57 := F42.keep K48 (ninS (Ne.symm nsa1) nin0)
  have V58 := V43.keep K48 (ninS nrs1 nin0)
  have O59 := O44.keep K48 (allS gs1 all0)
  have K60 := K45.trans K48 (allS (Or.inl (by simp)) all0)
  have Z61 : n0 ≤ h47.size := Nat.le_trans Z46 K48.1
  refine WP.aloadN (pc' := 80) d_prog_7_method_35_79 rfl rfl rfl ?_
  refine WP.dup (pc' := 81) d_prog_7_method_35_80 rfl rfl ?_
  refine WP.getF (pc' := 84) d_prog_7_method_35_81 rfl (host := "") (Or.inl (wd83 hw)) Via.refl F54 ?_
  refine WP.iconst (pc' := 85) d_prog_7_method_35_84 rfl (z := 1) rfl ?_
  refine WP.iadd (pc' := 86) d_prog_7_method_35_85 rfl ?_
  refine WP.putF (pc' := 89) d_prog_7_method_35_86 rfl (host := "") (Or.inl (wd83 hw)) Via.refl F54 E50 (Or.inl (wd84 hw)) (wd61 hw) (ty := .int) (by decide) rfl rfl ga1 ?_
  intro h62 W63
  have Kw64 := Keep.of_wr W63
  have E65 := E50.keep Kw64
  have V66 := V58.keep Kw64 (ninS nra1 nin0)
  have V67 := A49.keep Kw64 (ninS nsa1 nin0)
  have O68 := O59.keep Kw64 (allS ga1 all0)
  have K69 := K60.trans Kw64 (allS (Or.inl (by simp)) all0)
  have Z70 : n0 ≤ h62.size := Nat.le_trans Z61 Kw64.1
  have F71 := F51.other W63 (Or.inr (slot_ne (Or.inl (wd68 hw)) (Or.inl (wd84 hw)) (by decide) (t := (.array .byte)) (t' := .int) (by decide) (by decide)))
  have F72 := F52.other W63 (Or.inr (slot_ne (Or.inl (wd71 hw)) (Or.inl (wd84 hw)) (by decide) (t := (.array .int)) (t' := .int) (by decide) (by decide)))
  have F73 := F53.other W63 (Or.inr (slot_ne (Or.inl (wd91 hw)) (Or.inl (wd84 hw)) (by decide) (t := .int) (t' := .int) (by decide) (by decide)))
  have F74 := F54.same W63
  have F75 := F55.other W63 (Or.inr (slot_ne (Or.inl (wd78 hw)) (Or.inl (wd84 hw)) (by decide) (t := .int) (t' := .int) (by decide) (by decide)))
  have F76 := F56.other W63 (Or.inr (slot_ne (Or.inl (wd80 hw)) (Or.inl (wd84 hw)) (by decide) (t := .int) (t' := .int) (by decide) (by decide)))
  have F77 := F57.other W63 (Or.inr (slot_ne (Or.inl (wd82 hw)) (Or.inl (wd84 hw)) (by decide) (t := .boolean) (t' := .int) (by decide) (by decide)))
  exact WP.vret d_prog_7_method_35_89 rfl (by decide) (by decide) ⟨rfl, K69, ⟨⟨ga1, gr1, gs1, nrs1, nra1, nsa1⟩, E65, ⟨F71, F72, F73, F74, F75, F76, F77⟩, V66, V67⟩⟩
theorem d_prog_7_method_24_0 : decode prog_7_method_24_code 0 = .ok (.aload_n 0, 1) := by decide +kernel
theorem d_prog_7_method_24_1 : decode prog_7_method_24_code 1 = .ok (.getfield 114, 3) := by decide +kernel
theorem d_prog_7_method_24_4 : decode prog_7_method_24_code 4 = .ok (.istore_n 3, 1) := by decide +kernel
theorem d_prog_7_method_24_5 : decode prog_7_method_24_code 5 = .ok (.aload_n 0, 1) := by decide +kernel
theorem d_prog_7_method_24_6 : decode prog_7_method_24_code 6 = .ok (.aload_n 1, 1) := by decide +kernel
theorem d_prog_7_method_24_7 : decode prog_7_method_24_code 7 = .ok (.invokevirtual 219, 3) := by decide +kernel
theorem wd92 {Z : State} {a0 : Array Value} (hw : ∀ d ∈ tables_1, d.before a0 Z = true) : (Jvm.Cond.methodLink "com/example/vipool/vipool/http/HttpHead" (219 : Nat) ({ cls := "com/example/vipool/vipool/http/HttpHead", name := "put", desc := "(Ljava/lang/String;)V" } : Jvm.MethodName)).before a0 Z = true := hw _ (List.mem_of_getElem? (i := 92) rfl)
theorem wd95 {Z : State} {a0 : Array Value} (hw : ∀ d ∈ tables_1, d.before a0 Z = true) : (Jvm.Cond.code ({ cls := "com/example/vipool/vipool/http/HttpHead", name := "put", desc := "(Ljava/lang/String;)V" } : Jvm.MethodName) prog_7_method_48_code (4 : Nat) (Option.none : Option Jvm.ClassFile.FieldType)).before a0 Z = true := hw _ (List.mem_of_getElem? (i := 95) rfl)
theorem pd_18 : parseMethodDescriptor "(Ljava/lang/String;)V" = some ⟨[(.object "java/lang/String")], none⟩ := by decide +kernel
theorem wd93 {Z : State} {a0 : Array Value} (hw : ∀ d ∈ tables_1, d.before a0 Z = true) : (Jvm.Cond.instanceMethod ({ cls := "com/example/vipool/vipool/http/HttpHead", name := "put", desc := "(Ljava/lang/String;)V" } : Jvm.MethodName)).before a0 Z = true := hw _ (List.mem_of_getElem? (i := 93) rfl)
theorem wd94 {Z : State} {a0 : Array Value} (hw : ∀ d ∈ tables_1, d.before a0 Z = true) : (Jvm.Cond.privateMethod ({ cls := "com/example/vipool/vipool/http/HttpHead", name := "put", desc := "(Ljava/lang/String;)V" } : Jvm.MethodName)).before a0 Z = true := hw _ (List.mem_of_getElem? (i := 94) rfl)
theorem d_prog_7_method_24_10 : decode prog_7_method_24_code 10 = .ok (.aload_n 0, 1) := by decide +kernel
theorem d_prog_7_method_24_11 : decode prog_7_method_24_code 11 = .ok (.getfield 114, 3) := by decide +kernel
theorem d_prog_7_method_24_14 : decode prog_7_method_24_code 14 = .ok (.istore 4, 2) := by decide +kernel
theorem d_prog_7_method_24_16 : decode prog_7_method_24_code 16 = .ok (.aload_n 0, 1) := by decide +kernel
theorem d_prog_7_method_24_17 : decode prog_7_method_24_code 17 = .ok (.aload_n 2, 1) := by decide +kernel
theorem d_prog_7_method_24_18 : decode prog_7_method_24_code 18 = .ok (.invokevirtual 219, 3) := by decide +kernel
theorem d_prog_7_method_24_21 : decode prog_7_method_24_code 21 = .ok (.aload_n 0, 1) := by decide +kernel
theorem d_prog_7_method_24_22 : decode prog_7_method_24_code 22 = .ok (.iload_n 3, 1) := by decide +kernel
theorem d_prog_7_method_24_23 : decode prog_7_method_24_code 23 = .ok (.iload 4, 2) := by decide +kernel
theorem d_prog_7_method_24_25 : decode prog_7_method_24_code 25 = .ok (.iload 4, 2) := by decide +kernel
theorem d_prog_7_method_24_27 : decode prog_7_method_24_code 27 = .ok (.aload_n 0, 1) := by decide +kernel
theorem d_prog_7_method_24_28 : decode prog_7_method_24_code 28 = .ok (.getfield 114, 3) := by decide +kernel
theorem d_prog_7_method_24_31 : decode prog_7_method_24_code 31 = .ok (.invokevirtual 222, 3) := by decide +kernel
theorem wd131 {Z : State} {a0 : Array Value} (hw : ∀ d ∈ tables_1, d.before a0 Z = true) : (Jvm.Cond.methodLink "com/example/vipool/vipool/http/HttpHead" (222 : Nat) ({ cls := "com/example/vipool/vipool/http/HttpHead", name := "span", desc := "(IIII)V" } : Jvm.MethodName)).before a0 Z = true := hw _ (List.mem_of_getElem? (i := 131) rfl)
theorem wd134 {Z : State} {a0 : Array Value} (hw : ∀ d ∈ tables_1, d.before a0 Z = true) : (Jvm.Cond.code ({ cls := "com/example/vipool/vipool/http/HttpHead", name := "span", desc := "(IIII)V" } : Jvm.MethodName) prog_7_method_35_code (6 : Nat) (Option.none : Option Jvm.ClassFile.FieldType)).before a0 Z = true := hw _ (List.mem_of_getElem? (i := 134) rfl)
theorem pd_19 : parseMethodDescriptor "(IIII)V" = some ⟨[.int, .int, .int, .int], none⟩ := by decide +kernel
theorem wd132 {Z : State} {a0 : Array Value} (hw : ∀ d ∈ tables_1, d.before a0 Z = true) : (Jvm.Cond.instanceMethod ({ cls := "com/example/vipool/vipool/http/HttpHead", name := "span", desc := "(IIII)V" } : Jvm.MethodName)).before a0 Z = true := hw _ (List.mem_of_getElem? (i := 132) rfl)
theorem wd133 {Z : State} {a0 : Array Value} (hw : ∀ d ∈ tables_1, d.before a0 Z = true) : (Jvm.Cond.privateMethod ({ cls := "com/example/vipool/vipool/http/HttpHead", name := "span", desc := "(IIII)V" } : Jvm.MethodName)).before a0 Z = true := hw _ (List.mem_of_getElem? (i := 133) rfl)
theorem d_prog_7_method_24_34 : decode prog_7_method_24_code 34 = .ok (.return_, 1) := by decide +kernel
set_option maxRecDepth 65536 in
set_option maxHeartbeats 40000000 in
theorem m_add {Z : State} {a0 : Array Value} (hw : ∀ d ∈ tables_1, d.before a0 Z = true) (a : Addr) (s1 : Addr) (s2 : Addr) (h0 : Heap) (n0 : Nat) (Z0 : n0 ≤ h0.size) (O0 : Old Z n0 h0) (cs : Int32) (S_CS : Sta Z Z.heap "java/lang/String" "COMPACT_STRINGS" "Z" (.int cs)) (hcs : ¬ cs = 0) (fv : Value) (hfv : fv.isRef = true) (S_FM : Sta Z Z.heap "jdk/internal/util/Preconditions" "SIOOBE_FORMATTER" "Ljava/util/function/BiFunction;" fv) (rw sp : Addr) (us fd : Int32) (g e : Nat → Int32) (R0 : Hh Z n0 h0 a rw sp us fd g e) (b1 : Addr) (n1 : Nat) (q1 : Nat → Int32) (s1E : Exa Z h0 s1 "java/lang/String") (s1V : Fld Z h0 s1 "java/lang/String" "value" "[B" (.ref b1)) (s1C : Fld Z h0 s1 "java/lang/String" "coder" "B" (.int 0)) (s1A : Ari Z h0 b1 .byte n1 q1) (b2 : Addr) (n2 : Nat) (q2 : Nat → Int32) (s2E : Exa Z h0 s2 "java/lang/String") (s2V : Fld Z h0 s2 "java/lang/String" "value" "[B" (.ref b2)) (s2C : Fld Z h0 s2 "java/lang/String" "coder" "B" (.int 0)) (s2A : Ari Z h0 b2 .byte n2 q2) (n_s1a : s1 ≠ a) (n_s1rw : s1 ≠ rw) (n_s1sp : s1 ≠ sp) (n_b1a : b1 ≠ a) (n_b1rw : b1 ≠ rw) (n_b1sp : b1 ≠ sp) (n_s2a : s2 ≠ a) (n_s2rw : s2 ≠ rw) (n_s2sp : s2 ≠ sp) (n_b2a : b2 ≠ a) (n_b2rw : b2 ≠ rw) (n_b2sp : b2 ≠ sp) (U F : Nat) (hU : us.toInt = (U : Int)) (hs : U + n1 + n2 ≤ 512) (hq1 : ∀ i, i < n1 → nar .byte (q1 i) = q1 i) (hq2 : ∀ i, i < n2 → nar .byte (q2 i) = q2 i) (hF : fd.toInt = (F : Int)) (hF7 : F ≤ 6) : ∀ l, Does l Z (⟨"com/example/vipool/vipool/http/HttpHead", "add", "(Ljava/lang/String;Ljava/lang/String;)V"⟩ : MethodName) prog_7_method_24_code 5 none ({ frames := 5, cells := 0, slots := 0, locals := 68 } : Room) n0 #[(.ref a), (.ref s1), (.ref s2)] h0 (fun v h => v = none ∧ Keep h0 h [a, rw, sp] ∧ Hh Z n0 h a rw sp (us + (n1 : Nat).toInt32 + (n2 : Nat).toInt32) (fd + 1) (lay (lay g U n1 q1) (U + n1) n2 q2) (sp4 e F us (us + (n1 : Nat).toInt32) (us + (n1 : Nat).toInt32) (us + (n1 : Nat).toInt32 + (n2 : Nat).toInt32))) := by
  intro l
  refine Does.of_wp (plainFor_of_name pn_5) (Ls := #[.val (.ref a), .val (.ref s1), .val (.ref s2), .unset, .unset]) (fun m => by first | (simp [entryFrame, mkF, argsToLocals, Value.category]; done) | rfl | (rcases ref_cases hfv with rfl | ⟨_, rfl⟩ <;> rfl)) ?_
  intro C
  obtain ⟨⟨ga1, gr1, gs1, nrs1, nra1, nsa1⟩, X1, ⟨Fraw_1, Fspans_1, Fused_1, Ffields_1, FsecondEnd_1, FsecondStart_1, Frequest_1⟩, AR1, AS1⟩ := id R0
  have K0 := Keep.refl h0 [a, rw, sp]
  refine WP.aloadN (pc' := 1) d_prog_7_method_24_0 rfl rfl rfl ?_
  refine WP.getF (pc' := 4) d_prog_7_method_24_1 rfl (host := "") (Or.inl (wd90 hw)) Via.refl Fused_1 ?_
  refine WP.istoreN (pc' := 5) d_prog_7_method_24_4 rfl (Ls' := #[.val (.ref a), .val (.ref s1), .val (.ref s2), .val (.int us), .unset]) rfl ?_
  refine WP.aloadN (pc' := 6) d_prog_7_method_24_5 rfl rfl rfl ?_
  refine WP.aloadN (pc' := 7) d_prog_7_method_24_6 rfl rfl rfl ?_
  refine WP.callP (a := a) (argsL := [(.ref s1)]) (rest := []) (wd := 0) (cl' := 0) (sl' := 0) (pc' := 10) d_prog_7_method_24_7 rfl (wd92 hw) (wd93 hw) (selPriv (wd75 hw) rfl (wd94 hw) (wd93 hw) (by decide)) (wd94 hw) (wd62 hw) (wd95 hw) (by decide) R0.2.1 (m_put hw a s1 h0 n0 Z0 O0 cs S_CS hcs fv hfv S_FM rw sp us fd g e R0 b1 n1 q1 s1E s1V s1C s1A n_s1a n_s1rw n_s1sp n_b1a n_b1rw n_b1sp (U) hU (by omega) hq1) pd_18 rfl rfl rfl (Nat.le_of_eq rfl) (by decide) (by decide) rfl rfl (by decide) (by decide) ?_
  rintro v h2 ⟨rfl, K2, R2⟩
  have E3 := X1.keep K2
  have V4 := AS1.keep K2 (ninS nsa1 (ninS (Ne.symm nrs1) nin0))
  have E5 := s1E.keep K2
  have F6 := s1V.keep K2 (ninS n_s1a (ninS n_s1rw nin0))
  have F7 := s1C.keep K2 (ninS n_s1a (ninS n_s1rw nin0))
  have V8 := s1A.keep K2 (ninS n_b1a (ninS n_b1rw nin0))
  have E9 := s2E.keep K2
  have F10 := s2V.keep K2 (ninS n_s2a (ninS n_s2rw nin0))
  have F11 := s2C.keep K2 (ninS n_s2a (ninS n_s2rw nin0))
  have V12 := s2A.keep K2 (ninS n_b2a (ninS n_b2rw nin0))
  have O13 := O0.keep K2 (allS ga1 (allS gr1 all0))
  have K14 := K0.trans K2 (allS (Or.inl (by simp)) (allS (Or.inl (by simp)) all0))
  have Z15 : n0 ≤ h2.size := Nat.le_trans Z0 K2.1
  obtain ⟨⟨ga16, gr16, gs16, nrs16, nra16, nsa16⟩, X16, ⟨Fraw_16, Fspans_16, Fused_16, Ffields_16, FsecondEnd_16, FsecondStart_16, Frequest_16⟩, AR16, AS16⟩ := id R2
  refine WP.castS (st' := []) rfl ?_
  refine WP.aloadN (pc' := 11) d_prog_7_method_24_10 rfl rfl rfl ?_
  refine WP.getF (pc' := 14) d_prog_7_method_24_11 rfl (host := "") (Or.inl (wd90 hw)) Via.refl Fused_16 ?_
  refine WP.istore (pc' := 16) d_prog_7_method_24_14 rfl (Ls' := #[.val (.ref a), .val (.ref s1), .val (.ref s2), .val (.int us), .val (.int (us + (n1 : Nat).toInt32))]) rfl ?_
  refine WP.aloadN (pc' := 17) d_prog_7_method_24_16 rfl rfl rfl ?_
  refine WP.aloadN (pc' := 18) d_prog_7_method_24_17 rfl rfl rfl ?_
  refine WP.callP (a := a) (argsL := [(.ref s2)]) (rest := []) (wd := 0) (cl' := 0) (sl' := 0) (pc' := 21) d_prog_7_method_24_18 rfl (wd92 hw) (wd93 hw) (selPriv (wd75 hw) rfl (wd94 hw) (wd93 hw) (by decide)) (wd94 hw) (wd62 hw) (wd95 hw) (by decide) R2.2.1 (m_put hw a s2 h2 n0 Z15 O13 cs S_CS hcs fv hfv S_FM rw sp (us + (n1 : Nat).toInt32) fd (lay g (U) n1 q1) e R2 b2 n2 q2 E9 F10 F11 V12 n_s2a n_s2rw n_s2sp n_b2a n_b2rw n_b2sp (U + n1) (adds hU (natI (by omega)) (by omega)) (by omega) hq2) pd_18 rfl rfl rfl (Nat.le_of_eq rfl) (by decide) (by decide) rfl rfl (by decide) (by decide) ?_
  rintro v h17 ⟨rfl, K17, R17⟩
  have E18 := X16.keep K17
  have V19 := AS16.keep K17 (ninS nsa16 (ninS (Ne.symm nrs16) nin0))
  have E20 := E5.keep K17
  have F21 := F6.keep K17 (ninS n_s1a (ninS n_s1rw nin0))
  have F22 := F7.keep K17 (ninS n_s1a (ninS n_s1rw nin0))
  have V23 := V8.keep K17 (ninS n_b1a (ninS n_b1rw nin0))
  have E24 := E9.keep K17
  have F25 := F10.keep K17 (ninS n_s2a (ninS n_s2rw nin0))
  have F26 := F11.keep K17 (ninS n_s2a (ninS n_s2rw nin0))
  have V27 := V12.keep K17 (ninS n_b2a (ninS n_b2rw nin0))
  have O28 := O13.keep K17 (allS ga16 (allS gr16 all0))
  have K29 := K14.trans K17 (allS (Or.inl (by simp)) (allS (Or.inl (by simp)) all0))
  have Z30 : n0 ≤ h17.size := Nat.le_trans Z15 K17.1
  obtain ⟨⟨ga31, gr31, gs31, nrs31, nra31, nsa31⟩, X31, ⟨Fraw_31, Fspans_31, Fused_31, Ffields_31, FsecondEnd_31, FsecondStart_31, Frequest_31⟩, AR31, AS31⟩ := id R17
  refine WP.castS (st' := []) rfl ?_
  refine WP.aloadN (pc' := 22) d_prog_7_method_24_21 rfl rfl rfl ?_
  refine WP.iloadN (pc' := 23) d_prog_7_method_24_22 rfl rfl ?_
  refine WP.iload (pc' := 25) d_prog_7_method_24_23 rfl rfl ?_
  refine WP.iload (pc' := 27) d_prog_7_method_24_25 rfl rfl ?_
  refine WP.aloadN (pc' := 28) d_prog_7_method_24_27 rfl rfl rfl ?_
  refine WP.getF (pc' := 31) d_prog_7_method_24_28 rfl (host := "") (Or.inl (wd90 hw)) Via.refl Fused_31 ?_
  refine WP.callP (a := a) (argsL := [(.int us), (.int (us + (n1 : Nat).toInt32)), (.int (us + (n1 : Nat).toInt32)), (.int ((us + (n1 : Nat).toInt32) + (n2 : Nat).toInt32))]) (rest := []) (wd := 0) (cl' := 0) (sl' := 0) (pc' := 34) d_prog_7_method_24_31 rfl (wd131 hw) (wd132 hw) (selPriv (wd75 hw) rfl (wd133 hw) (wd132 hw) (by decide)) (wd133 hw) (wd62 hw) (wd134 hw) (by decide) R17.2.1 (m_span hw a us (us + (n1 : Nat).toInt32) (us + (n1 : Nat).toInt32) ((us + (n1 : Nat).toInt32) + (n2 : Nat).toInt32) h17 n0 Z30 O28 rw sp ((us + (n1 : Nat).toInt32) + (n2 : Nat).toInt32) fd (lay (lay g (U) n1 q1) (U + n1) n2 q2) e R17 F hF hF7) pd_19 rfl rfl rfl (Nat.le_of_eq rfl) (by decide) (by decide) rfl rfl (by decide) (by decide) ?_
  rintro v h32 ⟨rfl, K32, R32⟩
  have E33 := X31.keep K32
  have E34 := E20.keep K32
  have F35 := F21.keep K32 (ninS n_s1a (ninS n_s1sp nin0))
  have F36 := F22.keep K32 (ninS n_s1a (ninS n_s1sp nin0))
  have V37 := V23.keep K32 (ninS n_b1a (ninS n_b1sp nin0))
  have E38 := E24.keep K32
  have F39 := F25.keep K32 (ninS n_s2a (ninS n_s2sp nin0))
  have F40 := F26.keep K32 (ninS n_s2a (ninS n_s2sp nin0))
  have V41 := V27.keep K32 (ninS n_b2a (ninS n_b2sp nin0))
  have V42 := AR31.keep K32 (ninS nra31 (ninS nrs31 nin0))
  have O43 := O28.keep K32 (allS ga31 (allS gs31 all0))
  have K44 := K29.trans K32 (allS (Or.inl (by simp)) (allS (Or.inl (by simp)) all0))
  have Z45 : n0 ≤ h32.size := Nat.le_trans Z30 K32.1
  refine WP.castS (st' := []) rfl ?_
  exact WP.vret d_prog_7_method_24_34 rfl (by decide) (by decide) ⟨rfl, K44, R32⟩
theorem d_prog_7_method_44_0 : decode prog_7_method_44_code 0 = .ok (.iload_n 1, 1) := by decide +kernel
theorem d_prog_7_method_44_1 : decode prog_7_method_44_code 1 = .ok (.bipush 65, 2) := by decide +kernel
theorem d_prog_7_method_44_3 : decode prog_7_method_44_code 3 = .ok (.if_icmp .lt 9, 3) := by decide +kernel
theorem d_prog_7_method_44_12 : decode prog_7_method_44_code 12 = .ok (.iload_n 1, 1) := by decide +kernel
theorem d_prog_7_method_44_13 : decode prog_7_method_44_code 13 = .ok (.bipush 97, 2) := by decide +kernel
theorem d_prog_7_method_44_15 : decode prog_7_method_44_code 15 = .ok (.if_icmp .lt 13, 3) := by decide +kernel
theorem d_prog_7_method_44_28 : decode prog_7_method_44_code 28 = .ok (.iconst 0, 1) := by decide +kernel
theorem d_prog_7_method_44_29 : decode prog_7_method_44_code 29 = .ok (.istore_n 2, 1) := by decide +kernel
theorem d_prog_7_method_44_30 : decode prog_7_method_44_code 30 = .ok (.iload_n 0, 1) := by decide +kernel
theorem d_prog_7_method_44_31 : decode prog_7_method_44_code 31 = .ok (.iload_n 1, 1) := by decide +kernel
theorem d_prog_7_method_44_32 : decode prog_7_method_44_code 32 = .ok (.if_icmp .eq 18, 3) := by decide +kernel
theorem d_prog_7_method_44_50 : decode prog_7_method_44_code 50 = .ok (.iconst 1, 1) := by decide +kernel
theorem d_prog_7_method_44_51 : decode prog_7_method_44_code 51 = .ok (.goto 4, 3) := by decide +kernel
theorem d_prog_7_method_44_55 : decode prog_7_method_44_code 55 = .ok (.ireturn, 1) := by decide +kernel
theorem d_prog_7_method_44_35 : decode prog_7_method_44_code 35 = .ok (.iload_n 2, 1) := by decide +kernel
theorem d_prog_7_method_44_36 : decode prog_7_method_44_code 36 = .ok (.ifCond .eq 18, 3) := by decide +kernel
theorem d_prog_7_method_44_54 : decode prog_7_method_44_code 54 = .ok (.iconst 0, 1) := by decide +kernel
theorem d_prog_7_method_44_18 : decode prog_7_method_44_code 18 = .ok (.iload_n 1, 1) := by decide +kernel
theorem d_prog_7_method_44_19 : decode prog_7_method_44_code 19 = .ok (.bipush 122, 2) := by decide +kernel
theorem d_prog_7_method_44_21 : decode prog_7_method_44_code 21 = .ok (.if_icmp .gt 7, 3) := by decide +kernel
theorem d_prog_7_method_44_24 : decode prog_7_method_44_code 24 = .ok (.iconst 1, 1) := by decide +kernel
theorem d_prog_7_method_44_25 : decode prog_7_method_44_code 25 = .ok (.goto 4, 3) := by decide +kernel
theorem d_prog_7_method_44_39 : decode prog_7_method_44_code 39 = .ok (.iload_n 0, 1) := by decide +kernel
theorem d_prog_7_method_44_40 : decode prog_7_method_44_code 40 = .ok (.bipush 32, 2) := by decide +kernel
theorem d_prog_7_method_44_42 : decode prog_7_method_44_code 42 = .ok (.ior, 1) := by decide +kernel
theorem d_prog_7_method_44_43 : decode prog_7_method_44_code 43 = .ok (.iload_n 1, 1) := by decide +kernel
theorem d_prog_7_method_44_44 : decode prog_7_method_44_code 44 = .ok (.bipush 32, 2) := by decide +kernel
theorem d_prog_7_method_44_46 : decode prog_7_method_44_code 46 = .ok (.ior, 1) := by decide +kernel
theorem d_prog_7_method_44_47 : decode prog_7_method_44_code 47 = .ok (.if_icmp .ne 7, 3) := by decide +kernel
theorem d_prog_7_method_44_6 : decode prog_7_method_44_code 6 = .ok (.iload_n 1, 1) := by decide +kernel
theorem d_prog_7_method_44_7 : decode prog_7_method_44_code 7 = .ok (.bipush 90, 2) := by decide +kernel
theorem d_prog_7_method_44_9 : decode prog_7_method_44_code 9 = .ok (.if_icmp .le 15, 3) := by decide +kernel
set_option maxRecDepth 65536 in
set_option maxHeartbeats 40000000 in
theorem m_sma {Z : State} {a0 : Array Value} (hw : ∀ d ∈ tables_1, d.before a0 Z = true) (x : Int32) (c : Int32) (h0 : Heap) (n0 : Nat)  : ∀ l, Does l Z (⟨"com/example/vipool/vipool/http/HttpHead", "sameInAnyCase", "(II)Z"⟩ : MethodName) prog_7_method_44_code 3 (some .boolean) ({ frames := 0, cells := 0, slots := 0, locals := 0 } : Room) n0 #[(.int x), (.int c)] h0 (fun v h => ((v = some (.int 1) ∧ SA x c) ∨ (v = some (.int 0) ∧ ¬ SA x c)) ∧ h = h0) := by
  intro l
  refine Does.of_wp (plainFor_of_name pn_5) (Ls := #[.val (.int x), .val (.int c), .unset]) (fun m => by first | (simp [entryFrame, mkF, argsToLocals, Value.category]; done) | rfl | (rcases ref_cases hfv with rfl | ⟨_, rfl⟩ <;> rfl)) ?_
  intro C
  refine WP.iloadN (pc' := 1) d_prog_7_method_44_0 rfl rfl ?_
  refine WP.bipush (pc' := 3) d_prog_7_method_44_1 rfl (z := 65) rfl ?_
  refine WP.icmp_lt (pc1 := 12) (pc2 := 6) d_prog_7_method_44_3 (by decide) (by decide) rfl ?_ ?_
  · intro hc3
    refine WP.iloadN (pc' := 13) d_prog_7_method_44_12 rfl rfl ?_
    refine WP.bipush (pc' := 15) d_prog_7_method_44_13 rfl (z := 97) rfl ?_
    refine WP.icmp_lt (pc1 := 28) (pc2 := 18) d_prog_7_method_44_15 (by decide) (by decide) rfl ?_ ?_
    · intro hc15
      refine WP.iconst (pc' := 29) d_prog_7_method_44_28 rfl (z := 0) rfl ?_
      refine WP.istoreN (pc' := 30) d_prog_7_method_44_29 rfl (Ls' := #[.val (.int x), .val (.int c), .val (.int (0 : Int32))]) rfl ?_
      refine WP.iloadN (pc' := 31) d_prog_7_method_44_30 rfl rfl ?_
      refine WP.iloadN (pc' := 32) d_prog_7_method_44_31 rfl rfl ?_
      refine WP.icmp_eq (pc1 := 50) (pc2 := 35) d_prog_7_method_44_32 (by decide) (by decide) rfl ?_ ?_
      · intro hc32
        refine WP.iconst (pc' := 51) d_prog_7_method_44_50 rfl (z := 1) rfl ?_
        refine WP.goto (pc' := 55) d_prog_7_method_44_51 (by decide) (by decide) ?_
        refine WP.nret (t := .boolean) d_prog_7_method_44_55 rfl (by simp) rfl (by decide) (by decide) ⟨Or.inl ⟨rfl, by unfold SA Lt'; simp only [Int32.lt_iff_toInt_lt, Int32.le_iff_toInt_le, ← Int32.toInt_inj, Int32.reduceToInt] at hc3 hc15 hc32 ⊢; omega⟩, rfl⟩
      · intro hc32
        refine WP.iloadN (pc' := 36) d_prog_7_method_44_35 rfl rfl ?_
        have hc36 : (0 : Int32) = (0 : Int32) := by decide
        refine WP.ifc_eq (pc1 := 54) (pc2 := 39) d_prog_7_method_44_36 (by decide) (by decide) rfl (fun _ => ?_) (fun k => absurd hc36 k)
        refine WP.iconst (pc' := 55) d_prog_7_method_44_54 rfl (z := 0) rfl ?_
        refine WP.nret (t := .boolean) d_prog_7_method_44_55 rfl (by simp) rfl (by decide) (by decide) ⟨Or.inr ⟨rfl, by unfold SA Lt'; simp only [Int32.lt_iff_toInt_lt, Int32.le_iff_toInt_le, ← Int32.toInt_inj, Int32.reduceToInt] at hc3 hc15 hc32 hc36 ⊢; omega⟩, rfl⟩
    · intro hc15
      refine WP.iloadN (pc' := 19) d_prog_7_method_44_18 rfl rfl ?_
      refine WP.bipush (pc' := 21) d_prog_7_method_44_19 rfl (z := 122) rfl ?_
      refine WP.icmp_gt (pc1 := 28) (pc2 := 24) d_prog_7_method_44_21 (by decide) (by decide) rfl ?_ ?_
      · intro hc21
        refine WP.iconst (pc' := 29) d_prog_7_method_44_28 rfl (z := 0) rfl ?_
        refine WP.istoreN (pc' := 30) d_prog_7_method_44_29 rfl (Ls' := #[.val (.int x), .val (.int c), .val (.int (0 : Int32))]) rfl ?_
        refine WP.iloadN (pc' := 31) d_prog_7_method_44_30 rfl rfl ?_
        refine WP.iloadN (pc' := 32) d_prog_7_method_44_31 rfl rfl ?_
        refine WP.icmp_eq (pc1 := 50) (pc2 := 35) d_prog_7_method_44_32 (by decide) (by decide) rfl ?_ ?_
        · intro hc32
          refine WP.iconst (pc' := 51) d_prog_7_method_44_50 rfl (z := 1) rfl ?_
          refine WP.goto (pc' := 55) d_prog_7_method_44_51 (by decide) (by decide) ?_
          refine WP.nret (t := .boolean) d_prog_7_method_44_55 rfl (by simp) rfl (by decide) (by decide) ⟨Or.inl ⟨rfl, by unfold SA Lt'; simp only [Int32.lt_iff_toInt_lt, Int32.le_iff_toInt_le, ← Int32.toInt_inj, Int32.reduceToInt] at hc3 hc15 hc21 hc32 ⊢; omega⟩, rfl⟩
        · intro hc32
          refine WP.iloadN (pc' := 36) d_prog_7_method_44_35 rfl rfl ?_
          have hc36 : (0 : Int32) = (0 : Int32) := by decide
          refine WP.ifc_eq (pc1 := 54) (pc2 := 39) d_prog_7_method_44_36 (by decide) (by decide) rfl (fun _ => ?_) (fun k => absurd hc36 k)
          refine WP.iconst (pc' := 55) d_prog_7_method_44_54 rfl (z := 0) rfl ?_
          refine WP.nret (t := .boolean) d_prog_7_method_44_55 rfl (by simp) rfl (by decide) (by decide) ⟨Or.inr ⟨rfl, by unfold SA Lt'; simp only [Int32.lt_iff_toInt_lt, Int32.le_iff_toInt_le, ← Int32.toInt_inj, Int32.reduceToInt] at hc3 hc15 hc21 hc32 hc36 ⊢; omega⟩, rfl⟩
      · intro hc21
        refine WP.iconst (pc' := 25) d_prog_7_method_44_24 rfl (z := 1) rfl ?_
        refine WP.goto (pc' := 29) d_prog_7_method_44_25 (by decide) (by decide) ?_
        refine WP.istoreN (pc' := 30) d_prog_7_method_44_29 rfl (Ls' := #[.val (.int x), .val (.int c), .val (.int (1 : Int32))]) rfl ?_
        refine WP.iloadN (pc' := 31) d_prog_7_method_44_30 rfl rfl ?_
        refine WP.iloadN (pc' := 32) d_prog_7_method_44_31 rfl rfl ?_
        refine WP.icmp_eq (pc1 := 50) (pc2 := 35) d_prog_7_method_44_32 (by decide) (by decide) rfl ?_ ?_
        · intro hc32
          refine WP.iconst (pc' := 51) d_prog_7_method_44_50 rfl (z := 1) rfl ?_
          refine WP.goto (pc' := 55) d_prog_7_method_44_51 (by decide) (by decide) ?_
          refine WP.nret (t := .boolean) d_prog_7_method_44_55 rfl (by simp) rfl (by decide) (by decide) ⟨Or.inl ⟨rfl, by unfold SA Lt'; simp only [Int32.lt_iff_toInt_lt, Int32.le_iff_toInt_le, ← Int32.toInt_inj, Int32.reduceToInt] at hc3 hc15 hc21 hc32 ⊢; omega⟩, rfl⟩
        · intro hc32
          refine WP.iloadN (pc' := 36) d_prog_7_method_44_35 rfl rfl ?_
          have hc36 : ¬ (1 : Int32) = (0 : Int32) := by decide
          refine WP.ifc_eq (pc1 := 54) (pc2 := 39) d_prog_7_method_44_36 (by decide) (by decide) rfl (fun k => absurd k hc36) (fun _ => ?_)
          refine WP.iloadN (pc' := 40) d_prog_7_method_44_39 rfl rfl ?_
          refine WP.bipush (pc' := 42) d_prog_7_method_44_40 rfl (z := 32) rfl ?_
          refine WP.ior (pc' := 43) d_prog_7_method_44_42 rfl ?_
          refine WP.iloadN (pc' := 44) d_prog_7_method_44_43 rfl rfl ?_
          refine WP.bipush (pc' := 46) d_prog_7_method_44_44 rfl (z := 32) rfl ?_
          refine WP.ior (pc' := 47) d_prog_7_method_44_46 rfl ?_
          refine WP.icmp_ne (pc1 := 54) (pc2 := 50) d_prog_7_method_44_47 (by decide) (by decide) rfl ?_ ?_
          · intro hc47
            refine WP.iconst (pc' := 55) d_prog_7_method_44_54 rfl (z := 0) rfl ?_
            refine WP.nret (t := .boolean) d_prog_7_method_44_55 rfl (by simp) rfl (by decide) (by decide) ⟨Or.inr ⟨rfl, by unfold SA Lt'; simp only [Int32.lt_iff_toInt_lt, Int32.le_iff_toInt_le, ← Int32.toInt_inj, Int32.reduceToInt] at hc3 hc15 hc21 hc32 hc36 hc47 ⊢; omega⟩, rfl⟩
          · intro hc47
            refine WP.iconst (pc' := 51) d_prog_7_method_44_50 rfl (z := 1) rfl ?_
            refine WP.goto (pc' := 55) d_prog_7_method_44_51 (by decide) (by decide) ?_
            refine WP.nret (t := .boolean) d_prog_7_method_44_55 rfl (by simp) rfl (by decide) (by decide) ⟨Or.inl ⟨rfl, by unfold SA Lt'; simp only [Int32.lt_iff_toInt_lt, Int32.le_iff_toInt_le, ← Int32.toInt_inj, Int32.reduceToInt] at hc3 hc15 hc21 hc32 hc36 hc47 ⊢; omega⟩, rfl⟩
  · intro hc3
    refine WP.iloadN (pc' := 7) d_prog_7_method_44_6 rfl rfl ?_
    refine WP.bipush (pc' := 9) d_prog_7_method_44_7 rfl (z := 90) rfl ?_
    refine WP.icmp_le (pc1 := 24) (pc2 := 12) d_prog_7_method_44_9 (by decide) (by decide) rfl ?_ ?_
    · intro hc9
      refine WP.iconst (pc' := 25) d_prog_7_method_44_24 rfl (z := 1) rfl ?_
      refine WP.goto (pc' := 29) d_prog_7_method_44_25 (by decide) (by decide) ?_
      refine WP.istoreN (pc' := 30) d_prog_7_method_44_29 rfl (Ls' := #[.val (.int x), .val (.int c), .val (.int (1 : Int32))]) rfl ?_
      refine WP.iloadN (pc' := 31) d_prog_7_method_44_30 rfl rfl ?_
      refine WP.iloadN (pc' := 32) d_prog_7_method_44_31 rfl rfl ?_
      refine WP.icmp_eq (pc1 := 50) (pc2 := 35) d_prog_7_method_44_32 (by decide) (by decide) rfl ?_ ?_
      · intro hc32
        refine WP.iconst (pc' := 51) d_prog_7_method_44_50 rfl (z := 1) rfl ?_
        refine WP.goto (pc' := 55) d_prog_7_method_44_51 (by decide) (by decide) ?_
        refine WP.nret (t := .boolean) d_prog_7_method_44_55 rfl (by simp) rfl (by decide) (by decide) ⟨Or.inl ⟨rfl, by unfold SA Lt'; simp only [Int32.lt_iff_toInt_lt, Int32.le_iff_toInt_le, ← Int32.toInt_inj, Int32.reduceToInt] at hc3 hc9 hc32 ⊢; omega⟩, rfl⟩
      · intro hc32
        refine WP.iloadN (pc' := 36) d_prog_7_method_44_35 rfl rfl ?_
        have hc36 : ¬ (1 : Int32) = (0 : Int32) := by decide
        refine WP.ifc_eq (pc1 := 54) (pc2 := 39) d_prog_7_method_44_36 (by decide) (by decide) rfl (fun k => absurd k hc36) (fun _ => ?_)
        refine WP.iloadN (pc' := 40) d_prog_7_method_44_39 rfl rfl ?_
        refine WP.bipush (pc' := 42) d_prog_7_method_44_40 rfl (z := 32) rfl ?_
        refine WP.ior (pc' := 43) d_prog_7_method_44_42 rfl ?_
        refine WP.iloadN (pc' := 44) d_prog_7_method_44_43 rfl rfl ?_
        refine WP.bipush (pc' := 46) d_prog_7_method_44_44 rfl (z := 32) rfl ?_
        refine WP.ior (pc' := 47) d_prog_7_method_44_46 rfl ?_
        refine WP.icmp_ne (pc1 := 54) (pc2 := 50) d_prog_7_method_44_47 (by decide) (by decide) rfl ?_ ?_
        · intro hc47
          refine WP.iconst (pc' := 55) d_prog_7_method_44_54 rfl (z := 0) rfl ?_
          refine WP.nret (t := .boolean) d_prog_7_method_44_55 rfl (by simp) rfl (by decide) (by decide) ⟨Or.inr ⟨rfl, by unfold SA Lt'; simp only [Int32.lt_iff_toInt_lt, Int32.le_iff_toInt_le, ← Int32.toInt_inj, Int32.reduceToInt] at hc3 hc9 hc32 hc36 hc47 ⊢; omega⟩, rfl⟩
        · intro hc47
          refine WP.iconst (pc' := 51) d_prog_7_method_44_50 rfl (z := 1) rfl ?_
          refine WP.goto (pc' := 55) d_prog_7_method_44_51 (by decide) (by decide) ?_
          refine WP.nret (t := .boolean) d_prog_7_method_44_55 rfl (by simp) rfl (by decide) (by decide) ⟨Or.inl ⟨rfl, by unfold SA Lt'; simp only [Int32.lt_iff_toInt_lt, Int32.le_iff_toInt_le, ← Int32.toInt_inj, Int32.reduceToInt] at hc3 hc9 hc32 hc36 hc47 ⊢; omega⟩, rfl⟩
    · intro hc9
      refine WP.iloadN (pc' := 13) d_prog_7_method_44_12 rfl rfl ?_
      refine WP.bipush (pc' := 15) d_prog_7_method_44_13 rfl (z := 97) rfl ?_
      refine WP.icmp_lt (pc1 := 28) (pc2 := 18) d_prog_7_method_44_15 (by decide) (by decide) rfl ?_ ?_
      · intro hc15
        refine WP.iconst (pc' := 29) d_prog_7_method_44_28 rfl (z := 0) rfl ?_
        refine WP.istoreN (pc' := 30) d_prog_7_method_44_29 rfl (Ls' := #[.val (.int x), .val (.int c), .val (.int (0 : Int32))]) rfl ?_
        refine WP.iloadN (pc' := 31) d_prog_7_method_44_30 rfl rfl ?_
        refine WP.iloadN (pc' := 32) d_prog_7_method_44_31 rfl rfl ?_
        refine WP.icmp_eq (pc1 := 50) (pc2 := 35) d_prog_7_method_44_32 (by decide) (by decide) rfl ?_ ?_
        · intro hc32
          refine WP.iconst (pc' := 51) d_prog_7_method_44_50 rfl (z := 1) rfl ?_
          refine WP.goto (pc' := 55) d_prog_7_method_44_51 (by decide) (by decide) ?_
          refine WP.nret (t := .boolean) d_prog_7_method_44_55 rfl (by simp) rfl (by decide) (by decide) ⟨Or.inl ⟨rfl, by unfold SA Lt'; simp only [Int32.lt_iff_toInt_lt, Int32.le_iff_toInt_le, ← Int32.toInt_inj, Int32.reduceToInt] at hc3 hc9 hc15 hc32 ⊢; omega⟩, rfl⟩
        · intro hc32
          refine WP.iloadN (pc' := 36) d_prog_7_method_44_35 rfl rfl ?_
          have hc36 : (0 : Int32) = (0 : Int32) := by decide
          refine WP.ifc_eq (pc1 := 54) (pc2 := 39) d_prog_7_method_44_36 (by decide) (by decide) rfl (fun _ => ?_) (fun k => absurd hc36 k)
          refine WP.iconst (pc' := 55) d_prog_7_method_44_54 rfl (z := 0) rfl ?_
          refine WP.nret (t := .boolean) d_prog_7_method_44_55 rfl (by simp) rfl (by decide) (by decide) ⟨Or.inr ⟨rfl, by unfold SA Lt'; simp only [Int32.lt_iff_toInt_lt, Int32.le_iff_toInt_le, ← Int32.toInt_inj, Int32.reduceToInt] at hc3 hc9 hc15 hc32 hc36 ⊢; omega⟩, rfl⟩
      · intro hc15
        refine WP.iloadN (pc' := 19) d_prog_7_method_44_18 rfl rfl ?_
        refine WP.bipush (pc' := 21) d_prog_7_method_44_19 rfl (z := 122) rfl ?_
        refine WP.icmp_gt (pc1 := 28) (pc2 := 24) d_prog_7_method_44_21 (by decide) (by decide) rfl ?_ ?_
        · intro hc21
          refine WP.iconst (pc' := 29) d_prog_7_method_44_28 rfl (z := 0) rfl ?_
          refine WP.istoreN (pc' := 30) d_prog_7_method_44_29 rfl (Ls' := #[.val (.int x), .val (.int c), .val (.int (0 : Int32))]) rfl ?_
          refine WP.iloadN (pc' := 31) d_prog_7_method_44_30 rfl rfl ?_
          refine WP.iloadN (pc' := 32) d_prog_7_method_44_31 rfl rfl ?_
          refine WP.icmp_eq (pc1 := 50) (pc2 := 35) d_prog_7_method_44_32 (by decide) (by decide) rfl ?_ ?_
          · intro hc32
            refine WP.iconst (pc' := 51) d_prog_7_method_44_50 rfl (z := 1) rfl ?_
            refine WP.goto (pc' := 55) d_prog_7_method_44_51 (by decide) (by decide) ?_
            refine WP.nret (t := .boolean) d_prog_7_method_44_55 rfl (by simp) rfl (by decide) (by decide) ⟨Or.inl ⟨rfl, by unfold SA Lt'; simp only [Int32.lt_iff_toInt_lt, Int32.le_iff_toInt_le, ← Int32.toInt_inj, Int32.reduceToInt] at hc3 hc9 hc15 hc21 hc32 ⊢; omega⟩, rfl⟩
          · intro hc32
            refine WP.iloadN (pc' := 36) d_prog_7_method_44_35 rfl rfl ?_
            have hc36 : (0 : Int32) = (0 : Int32) := by decide
            refine WP.ifc_eq (pc1 := 54) (pc2 := 39) d_prog_7_method_44_36 (by decide) (by decide) rfl (fun _ => ?_) (fun k => absurd hc36 k)
            refine WP.iconst (pc' := 55) d_prog_7_method_44_54 rfl (z := 0) rfl ?_
            refine WP.nret (t := .boolean) d_prog_7_method_44_55 rfl (by simp) rfl (by decide) (by decide) ⟨Or.inr ⟨rfl, by unfold SA Lt'; simp only [Int32.lt_iff_toInt_lt, Int32.le_iff_toInt_le, ← Int32.toInt_inj, Int32.reduceToInt] at hc3 hc9 hc15 hc21 hc32 hc36 ⊢; omega⟩, rfl⟩
        · intro hc21
          refine WP.iconst (pc' := 25) d_prog_7_method_44_24 rfl (z := 1) rfl ?_
          refine WP.goto (pc' := 29) d_prog_7_method_44_25 (by decide) (by decide) ?_
          refine WP.istoreN (pc' := 30) d_prog_7_method_44_29 rfl (Ls' := #[.val (.int x), .val (.int c), .val (.int (1 : Int32))]) rfl ?_
          refine WP.iloadN (pc' := 31) d_prog_7_method_44_30 rfl rfl ?_
          refine WP.iloadN (pc' := 32) d_prog_7_method_44_31 rfl rfl ?_
          refine WP.icmp_eq (pc1 := 50) (pc2 := 35) d_prog_7_method_44_32 (by decide) (by decide) rfl ?_ ?_
          · intro hc32
            refine WP.iconst (pc' := 51) d_prog_7_method_44_50 rfl (z := 1) rfl ?_
            refine WP.goto (pc' := 55) d_prog_7_method_44_51 (by decide) (by decide) ?_
            refine WP.nret (t := .boolean) d_prog_7_method_44_55 rfl (by simp) rfl (by decide) (by decide) ⟨Or.inl ⟨rfl, by unfold SA Lt'; simp only [Int32.lt_iff_toInt_lt, Int32.le_iff_toInt_le, ← Int32.toInt_inj, Int32.reduceToInt] at hc3 hc9 hc15 hc21 hc32 ⊢; omega⟩, rfl⟩
          · intro hc32
            refine WP.iloadN (pc' := 36) d_prog_7_method_44_35 rfl rfl ?_
            have hc36 : ¬ (1 : Int32) = (0 : Int32) := by decide
            refine WP.ifc_eq (pc1 := 54) (pc2 := 39) d_prog_7_method_44_36 (by decide) (by decide) rfl (fun k => absurd k hc36) (fun _ => ?_)
            refine WP.iloadN (pc' := 40) d_prog_7_method_44_39 rfl rfl ?_
            refine WP.bipush (pc' := 42) d_prog_7_method_44_40 rfl (z := 32) rfl ?_
            refine WP.ior (pc' := 43) d_prog_7_method_44_42 rfl ?_
            refine WP.iloadN (pc' := 44) d_prog_7_method_44_43 rfl rfl ?_
            refine WP.bipush (pc' := 46) d_prog_7_method_44_44 rfl (z := 32) rfl ?_
            refine WP.ior (pc' := 47) d_prog_7_method_44_46 rfl ?_
            refine WP.icmp_ne (pc1 := 54) (pc2 := 50) d_prog_7_method_44_47 (by decide) (by decide) rfl ?_ ?_
            · intro hc47
              refine WP.iconst (pc' := 55) d_prog_7_method_44_54 rfl (z := 0) rfl ?_
              refine WP.nret (t := .boolean) d_prog_7_method_44_55 rfl (by simp) rfl (by decide) (by decide) ⟨Or.inr ⟨rfl, by unfold SA Lt'; simp only [Int32.lt_iff_toInt_lt, Int32.le_iff_toInt_le, ← Int32.toInt_inj, Int32.reduceToInt] at hc3 hc9 hc15 hc21 hc32 hc36 hc47 ⊢; omega⟩, rfl⟩
            · intro hc47
              refine WP.iconst (pc' := 51) d_prog_7_method_44_50 rfl (z := 1) rfl ?_
              refine WP.goto (pc' := 55) d_prog_7_method_44_51 (by decide) (by decide) ?_
              refine WP.nret (t := .boolean) d_prog_7_method_44_55 rfl (by simp) rfl (by decide) (by decide) ⟨Or.inl ⟨rfl, by unfold SA Lt'; simp only [Int32.lt_iff_toInt_lt, Int32.le_iff_toInt_le, ← Int32.toInt_inj, Int32.reduceToInt] at hc3 hc9 hc15 hc21 hc32 hc36 hc47 ⊢; omega⟩, rfl⟩
theorem subs {p2 p1 : Int32} {A B : Nat} (hA : p1.toInt = (A : Int)) (hB : p2.toInt = (B : Int)) (h : A ≤ B) (hb : B ≤ 512) : (p2 - p1).toInt = ((B - A : Nat) : Int) := by
  have h1 := c_isub p2 p1
  have h2 := rng32 (p2 - p1)
  omega
theorem d_prog_7_method_43_0 : decode prog_7_method_43_code 0 = .ok (.iload_n 2, 1) := by decide +kernel
theorem d_prog_7_method_43_1 : decode prog_7_method_43_code 1 = .ok (.iload_n 1, 1) := by decide +kernel
theorem d_prog_7_method_43_2 : decode prog_7_method_43_code 2 = .ok (.isub, 1) := by decide +kernel
theorem d_prog_7_method_43_3 : decode prog_7_method_43_code 3 = .ok (.aload_n 3, 1) := by decide +kernel
theorem d_prog_7_method_43_4 : decode prog_7_method_43_code 4 = .ok (.invokevirtual 276, 3) := by decide +kernel
theorem d_prog_7_method_43_7 : decode prog_7_method_43_code 7 = .ok (.if_icmp .eq 5, 3) := by decide +kernel
theorem d_prog_7_method_43_12 : decode prog_7_method_43_code 12 = .ok (.iconst 0, 1) := by decide +kernel
theorem d_prog_7_method_43_13 : decode prog_7_method_43_code 13 = .ok (.istore 4, 2) := by decide +kernel
theorem d_prog_7_method_43_15 : decode prog_7_method_43_code 15 = .ok (.iload 4, 2) := by decide +kernel
theorem d_prog_7_method_43_17 : decode prog_7_method_43_code 17 = .ok (.aload_n 3, 1) := by decide +kernel
theorem d_prog_7_method_43_18 : decode prog_7_method_43_code 18 = .ok (.invokevirtual 276, 3) := by decide +kernel
theorem d_prog_7_method_43_21 : decode prog_7_method_43_code 21 = .ok (.if_icmp .ge 32, 3) := by decide +kernel
theorem d_prog_7_method_43_53 : decode prog_7_method_43_code 53 = .ok (.iconst 1, 1) := by decide +kernel
theorem d_prog_7_method_43_54 : decode prog_7_method_43_code 54 = .ok (.ireturn, 1) := by decide +kernel
theorem d_prog_7_method_43_24 : decode prog_7_method_43_code 24 = .ok (.aload_n 0, 1) := by decide +kernel
theorem d_prog_7_method_43_25 : decode prog_7_method_43_code 25 = .ok (.getfield 11, 3) := by decide +kernel
theorem d_prog_7_method_43_28 : decode prog_7_method_43_code 28 = .ok (.iload_n 1, 1) := by decide +kernel
theorem d_prog_7_method_43_29 : decode prog_7_method_43_code 29 = .ok (.iload 4, 2) := by decide +kernel
theorem d_prog_7_method_43_31 : decode prog_7_method_43_code 31 = .ok (.iadd, 1) := by decide +kernel
theorem d_prog_7_method_43_32 : decode prog_7_method_43_code 32 = .ok (.baload, 1) := by decide +kernel
theorem d_prog_7_method_43_33 : decode prog_7_method_43_code 33 = .ok (.aload_n 3, 1) := by decide +kernel
theorem d_prog_7_method_43_34 : decode prog_7_method_43_code 34 = .ok (.iload 4, 2) := by decide +kernel
theorem d_prog_7_method_43_36 : decode prog_7_method_43_code 36 = .ok (.invokevirtual 279, 3) := by decide +kernel
theorem d_prog_7_method_43_39 : decode prog_7_method_43_code 39 = .ok (.invokestatic 339, 3) := by decide +kernel
theorem wd151 {Z : State} {a0 : Array Value} (hw : ∀ d ∈ tables_1, d.before a0 Z = true) : (Jvm.Cond.methodLink "com/example/vipool/vipool/http/HttpHead" (339 : Nat) ({ cls := "com/example/vipool/vipool/http/HttpHead", name := "sameInAnyCase", desc := "(II)Z" } : Jvm.MethodName)).before a0 Z = true := hw _ (List.mem_of_getElem? (i := 151) rfl)
theorem wd153 {Z : State} {a0 : Array Value} (hw : ∀ d ∈ tables_1, d.before a0 Z = true) : (Jvm.Cond.code ({ cls := "com/example/vipool/vipool/http/HttpHead", name := "sameInAnyCase", desc := "(II)Z" } : Jvm.MethodName) prog_7_method_44_code (3 : Nat) (Option.some Jvm.ClassFile.FieldType.boolean)).before a0 Z = true := hw _ (List.mem_of_getElem? (i := 153) rfl)
theorem pd_20 : parseMethodDescriptor "(II)Z" = some ⟨[.int, .int], some .boolean⟩ := by decide +kernel
theorem wd152 {Z : State} {a0 : Array Value} (hw : ∀ d ∈ tables_1, d.before a0 Z = true) : (Jvm.Cond.static ({ cls := "com/example/vipool/vipool/http/HttpHead", name := "sameInAnyCase", desc := "(II)Z" } : Jvm.MethodName)).before a0 Z = true := hw _ (List.mem_of_getElem? (i := 152) rfl)
theorem d_prog_7_method_43_42 : decode prog_7_method_43_code 42 = .ok (.ifCond .ne 5, 3) := by decide +kernel
theorem d_prog_7_method_43_47 : decode prog_7_method_43_code 47 = .ok (.iinc 4 1, 3) := by decide +kernel
theorem d_prog_7_method_43_50 : decode prog_7_method_43_code 50 = .ok (.goto (-35), 3) := by decide +kernel
theorem d_prog_7_method_43_45 : decode prog_7_method_43_code 45 = .ok (.iconst 0, 1) := by decide +kernel
theorem d_prog_7_method_43_46 : decode prog_7_method_43_code 46 = .ok (.ireturn, 1) := by decide +kernel
theorem d_prog_7_method_43_10 : decode prog_7_method_43_code 10 = .ok (.iconst 0, 1) := by decide +kernel
theorem d_prog_7_method_43_11 : decode prog_7_method_43_code 11 = .ok (.ireturn, 1) := by decide +kernel
set_option maxRecDepth 65536 in
set_option maxHeartbeats 40000000 in
theorem m_eqa {Z : State} {a0 : Array Value} (hw : ∀ d ∈ tables_1, d.before a0 Z = true) (a : Addr) (p1 : Int32) (p2 : Int32) (s : Addr) (h0 : Heap) (n0 : Nat) (O0 : Old Z n0 h0) (cs : Int32) (S_CS : Sta Z Z.heap "java/lang/String" "COMPACT_STRINGS" "Z" (.int cs)) (hcs : ¬ cs = 0) (fv : Value) (hfv : fv.isRef = true) (S_FM : Sta Z Z.heap "jdk/internal/util/Preconditions" "SIOOBE_FORMATTER" "Ljava/util/function/BiFunction;" fv) (rw sp : Addr) (us fd : Int32) (g e : Nat → Int32) (R0 : Hh Z n0 h0 a rw sp us fd g e) (b : Addr) (n : Nat) (q : Nat → Int32) (sE : Exa Z h0 s "java/lang/String") (sV : Fld Z h0 s "java/lang/String" "value" "[B" (.ref b)) (sC : Fld Z h0 s "java/lang/String" "coder" "B" (.int 0)) (sA : Ari Z h0 b .byte n q) (hn : n ≤ 512) (A B : Nat) (hA : p1.toInt = (A : Int)) (hB : p2.toInt = (B : Int)) (hAB : A ≤ B) (hB5 : B ≤ 512) : ∀ l, Does l Z (⟨"com/example/vipool/vipool/http/HttpHead", "equalsInAnyCase", "(IILjava/lang/String;)Z"⟩ : MethodName) prog_7_method_43_code 5 (some .boolean) ({ frames := 4, cells := 0, slots := 0, locals := 54 } : Room) n0 #[(.ref a), (.int p1), (.int p2), (.ref s)] h0 (fun v h => ((v = some (.int 1) ∧ NM g A B n q) ∨ (v = some (.int 0) ∧ ¬ NM g A B n q)) ∧ h = h0) := by
  intro l
  refine Does.of_wp (plainFor_of_name pn_5) (Ls := #[.val (.ref a), .val (.int p1), .val (.int p2), .val (.ref s), .unset]) (fun m => by first | (simp [entryFrame, mkF, argsToLocals, Value.category]; done) | rfl | (rcases ref_cases hfv with rfl | ⟨_, rfl⟩ <;> rfl)) ?_
  intro C
  obtain ⟨⟨ga1, gr1, gs1, nrs1, nra1, nsa1⟩, X1, ⟨Fraw_1, Fspans_1, Fused_1, Ffields_1, FsecondEnd_1, FsecondStart_1, Frequest_1⟩, AR1, AS1⟩ := id R0
  refine WP.iloadN (pc' := 1) d_prog_7_method_43_0 rfl rfl ?_
  refine WP.iloadN (pc' := 2) d_prog_7_method_43_1 rfl rfl ?_
  refine WP.isub (pc' := 3) d_prog_7_method_43_2 rfl ?_
  refine WP.aloadN (pc' := 4) d_prog_7_method_43_3 rfl rfl rfl ?_
  refine WP.callV (a := s) (K := "java/lang/String") (argsL := []) (rest := [(.int (p2 - p1))]) (wd := 1) (cl' := 0) (sl' := 0) (pc' := 7) d_prog_7_method_43_4 rfl (wd96 hw) (wd97 hw) (nfS (wd99 hw) rfl) (wd99 hw) (wd98 hw) (wd12 hw) (wd100 hw) (by decide) sE (s_len hw s h0 n0 sE sC cs (S_CS.ext O0.2) hcs b sV n q sA (by omega)) pd_16 rfl rfl rfl (Nat.le_of_eq rfl) (by decide) (by decide) rfl rfl (by decide) (by decide) ?_
  rintro v hh2 ⟨rfl, he2⟩
  rw [he2]
  refine WP.castS (st' := [(.int (n : Nat).toInt32), (.int (p2 - p1))]) rfl ?_
  refine WP.icmp_eq (pc1 := 12) (pc2 := 10) d_prog_7_method_43_7 (by decide) (by decide) rfl ?_ ?_
  · intro hc7
    refine WP.iconst (pc' := 13) d_prog_7_method_43_12 rfl (z := 0) rfl ?_
    refine WP.istore (pc' := 15) d_prog_7_method_43_13 rfl (Ls' := #[.val (.ref a), .val (.int p1), .val (.int p2), .val (.ref s), .val (.int (0 : Int32))]) rfl ?_
    have hBA : B - A = n := by have := congrArg Int32.toInt hc7; rw [subs hA hB hAB hB5, natI (by omega)] at this; omega
    have loop : ∀ (k I : Nat) (i : Int32), i.toInt = (I : Int) → I ≤ n → n - I < k → (∀ j, j < I → SA (g (A + j)) (chv (q j))) → WP C Z prog_7_method_43_code 5 "com/example/vipool/vipool/http/HttpHead" (some .boolean) "equalsInAnyCase" ({ frames := 4, cells := 0, slots := 0, locals := 54 } : Room) n0 (fun v h => ((v = some (.int 1) ∧ NM g A B n q) ∨ (v = some (.int 0) ∧ ¬ NM g A B n q)) ∧ h = h0) 0 0 h0 15 #[.val (.ref a), .val (.int p1), .val (.int p2), .val (.ref s), .val (.int i)] [] := by
      intro k
      induction k with
      | zero => intro I i h1 h2 h3; omega
      | succ k IH =>
        intro I i hi hI hk hg
        refine WP.iload (pc' := 17) d_prog_7_method_43_15 rfl rfl ?_
        refine WP.aloadN (pc' := 18) d_prog_7_method_43_17 rfl rfl rfl ?_
        refine WP.callV (a := s) (K := "java/lang/String") (argsL := []) (rest := [(.int i)]) (wd := 1) (cl' := 0) (sl' := 0) (pc' := 21) d_prog_7_method_43_18 rfl (wd96 hw) (wd97 hw) (nfS (wd99 hw) rfl) (wd99 hw) (wd98 hw) (wd12 hw) (wd100 hw) (by decide) sE (s_len hw s h0 n0 sE sC cs (S_CS.ext O0.2) hcs b sV n q sA (by omega)) pd_16 rfl rfl rfl (Nat.le_of_eq rfl) (by decide) (by decide) rfl rfl (by decide) (by decide) ?_
        rintro v hh3 ⟨rfl, he3⟩
        rw [he3]
        refine WP.castS (st' := [(.int (n : Nat).toInt32), (.int i)]) rfl ?_
        refine WP.icmp_ge (pc1 := 53) (pc2 := 24) d_prog_7_method_43_21 (by decide) (by decide) rfl ?_ ?_
        · intro hc21
          refine WP.iconst (pc' := 54) d_prog_7_method_43_53 rfl (z := 1) rfl ?_
          refine WP.nret (t := .boolean) d_prog_7_method_43_54 rfl (by simp) rfl (by decide) (by decide) ⟨Or.inl ⟨rfl, hBA, fun j hj => hg j (by rw [Int32.lt_iff_toInt_lt, natI (by omega)] at hc21; omega)⟩, rfl⟩
        · intro hc21
          have lt1 : I < n := by rw [Int32.lt_iff_toInt_lt, natI (by omega)] at hc21; omega
          refine WP.aloadN (pc' := 25) d_prog_7_method_43_24 rfl rfl rfl ?_
          refine WP.getF (pc' := 28) d_prog_7_method_43_25 rfl (host := "") (Or.inl (wd67 hw)) Via.refl Fraw_1 ?_
          refine WP.iloadN (pc' := 29) d_prog_7_method_43_28 rfl rfl ?_
          refine WP.iload (pc' := 31) d_prog_7_method_43_29 rfl rfl ?_
          refine WP.iadd (pc' := 32) d_prog_7_method_43_31 rfl ?_
          refine WP.baloadI (A + I) (pc' := 33) d_prog_7_method_43_32 rfl AR1 (adds hA hi (by omega)) (by omega) rfl ?_
          refine WP.aloadN (pc' := 34) d_prog_7_method_43_33 rfl rfl rfl ?_
          refine WP.iload (pc' := 36) d_prog_7_method_43_34 rfl rfl ?_
          refine WP.callV (a := s) (K := "java/lang/String") (argsL := [(.int i)]) (rest := [(.int (g (A + I)))]) (wd := 1) (cl' := 0) (sl' := 0) (pc' := 39) d_prog_7_method_43_36 rfl (wd110 hw) (wd111 hw) (nfS (wd113 hw) rfl) (wd113 hw) (wd112 hw) (wd12 hw) (wd114 hw) (by decide) sE (s_cha hw s i h0 n0 sE sC cs (S_CS.ext O0.2) hcs b sV n q sA (by omega) fv hfv (S_FM.ext O0.2) I hi lt1) pd_14 rfl rfl rfl (Nat.le_of_eq rfl) (by decide) (by decide) rfl rfl (by decide) (by decide) ?_
          rintro v hh4 ⟨rfl, he4⟩
          rw [he4]
          refine WP.castS (st' := [(.int (chv (q I))), (.int (g (A + I)))]) rfl ?_
          refine WP.callS (argsL := [(.int (g (A + I))), (.int (chv (q I)))]) (rest := []) (wd := 0) (cl' := 0) (sl' := 0) (pc' := 42) d_prog_7_method_43_39 rfl (wd151 hw) (wd152 hw) (wd62 hw) (wd153 hw) (by decide) (m_sma hw (g (A + I)) (chv (q I)) h0 n0) pd_20 rfl rfl rfl (Nat.le_of_eq rfl) (by decide) (by decide) rfl rfl (by decide) (by decide) ?_
          rintro v hh5 ⟨⟨rfl, qa5⟩ | ⟨rfl, qa5⟩, he5⟩ <;> rw [he5]
          · skip
            refine WP.castS (st' := [(.int (1 : Int32))]) rfl ?_
            have hc42 : ¬ (1 : Int32) = (0 : Int32) := by decide
            refine WP.ifc_ne (pc1 := 47) (pc2 := 45) d_prog_7_method_43_42 (by decide) (by decide) rfl (fun _ => ?_) (fun k => absurd k hc42)
            refine WP.iinc (pc' := 50) d_prog_7_method_43_47 rfl rfl (z := (i + (1 : Int32))) rfl (Ls' := #[.val (.ref a), .val (.int p1), .val (.int p2), .val (.ref s), .val (.int (i + (1 : Int32)))]) rfl ?_
            refine WP.goto (pc' := 15) d_prog_7_method_43_50 (by decide) (by decide) ?_
            refine IH (I + 1) _ (adds hi rfl (by omega)) (by omega) (by omega) fun j hj => ?_
            by_cases z : j = I
            · rw [z]; exact qa5
            · exact hg j (by omega)
          · skip
            refine WP.castS (st' := [(.int (0 : Int32))]) rfl ?_
            have hc42 : (0 : Int32) = (0 : Int32) := by decide
            refine WP.ifc_ne (pc1 := 47) (pc2 := 45) d_prog_7_method_43_42 (by decide) (by decide) rfl (fun k => absurd hc42 k) (fun _ => ?_)
            refine WP.iconst (pc' := 46) d_prog_7_method_43_45 rfl (z := 0) rfl ?_
            refine WP.nret (t := .boolean) d_prog_7_method_43_46 rfl (by simp) rfl (by decide) (by decide) ⟨Or.inr ⟨rfl, fun z => qa5 (z.2 I lt1)⟩, rfl⟩
    exact loop (n + 1) 0 0 rfl (by omega) (by omega) fun j hj => absurd hj (by omega)
  · intro hc7
    refine WP.iconst (pc' := 11) d_prog_7_method_43_10 rfl (z := 0) rfl ?_
    refine WP.nret (t := .boolean) d_prog_7_method_43_11 rfl (by simp) rfl (by decide) (by decide) ⟨Or.inr ⟨rfl, fun z => hc7 (Int32.toInt_inj.mp (by rw [subs hA hB hAB hB5, z.1, natI (by omega)]))⟩, rfl⟩
theorem d_prog_7_method_42_0 : decode prog_7_method_42_code 0 = .ok (.aload_n 0, 1) := by decide +kernel
theorem d_prog_7_method_42_1 : decode prog_7_method_42_code 1 = .ok (.getfield 15, 3) := by decide +kernel
theorem d_prog_7_method_42_4 : decode prog_7_method_42_code 4 = .ok (.iload_n 1, 1) := by decide +kernel
theorem d_prog_7_method_42_5 : decode prog_7_method_42_code 5 = .ok (.iconst 4, 1) := by decide +kernel
theorem d_prog_7_method_42_6 : decode prog_7_method_42_code 6 = .ok (.imul, 1) := by decide +kernel
theorem d_prog_7_method_42_7 : decode prog_7_method_42_code 7 = .ok (.iaload, 1) := by decide +kernel
theorem d_prog_7_method_42_8 : decode prog_7_method_42_code 8 = .ok (.istore_n 3, 1) := by decide +kernel
theorem d_prog_7_method_42_9 : decode prog_7_method_42_code 9 = .ok (.iload_n 3, 1) := by decide +kernel
theorem d_prog_7_method_42_10 : decode prog_7_method_42_code 10 = .ok (.iconst (-1), 1) := by decide +kernel
theorem d_prog_7_method_42_11 : decode prog_7_method_42_code 11 = .ok (.if_icmp .eq 26, 3) := by decide +kernel
theorem d_prog_7_method_42_14 : decode prog_7_method_42_code 14 = .ok (.aload_n 0, 1) := by decide +kernel
theorem d_prog_7_method_42_15 : decode prog_7_method_42_code 15 = .ok (.iload_n 3, 1) := by decide +kernel
theorem d_prog_7_method_42_16 : decode prog_7_method_42_code 16 = .ok (.aload_n 0, 1) := by decide +kernel
theorem d_prog_7_method_42_17 : decode prog_7_method_42_code 17 = .ok (.getfield 15, 3) := by decide +kernel
theorem d_prog_7_method_42_20 : decode prog_7_method_42_code 20 = .ok (.iload_n 1, 1) := by decide +kernel
theorem d_prog_7_method_42_21 : decode prog_7_method_42_code 21 = .ok (.iconst 4, 1) := by decide +kernel
theorem d_prog_7_method_42_22 : decode prog_7_method_42_code 22 = .ok (.imul, 1) := by decide +kernel
theorem d_prog_7_method_42_23 : decode prog_7_method_42_code 23 = .ok (.iconst 1, 1) := by decide +kernel
theorem d_prog_7_method_42_24 : decode prog_7_method_42_code 24 = .ok (.iadd, 1) := by decide +kernel
theorem d_prog_7_method_42_25 : decode prog_7_method_42_code 25 = .ok (.iaload, 1) := by decide +kernel
theorem d_prog_7_method_42_26 : decode prog_7_method_42_code 26 = .ok (.aload_n 2, 1) := by decide +kernel
theorem d_prog_7_method_42_27 : decode prog_7_method_42_code 27 = .ok (.invokevirtual 196, 3) := by decide +kernel
theorem wd144 {Z : State} {a0 : Array Value} (hw : ∀ d ∈ tables_1, d.before a0 Z = true) : (Jvm.Cond.methodLink "com/example/vipool/vipool/http/HttpHead" (196 : Nat) ({ cls := "com/example/vipool/vipool/http/HttpHead", name := "equalsInAnyCase", desc := "(IILjava/lang/String;)Z" } : Jvm.MethodName)).before a0 Z = true := hw _ (List.mem_of_getElem? (i := 144) rfl)
theorem wd147 {Z : State} {a0 : Array Value} (hw : ∀ d ∈ tables_1, d.before a0 Z = true) : (Jvm.Cond.code ({ cls := "com/example/vipool/vipool/http/HttpHead", name := "equalsInAnyCase", desc := "(IILjava/lang/String;)Z" } : Jvm.MethodName) prog_7_method_43_code (5 : Nat) (Option.some Jvm.ClassFile.FieldType.boolean)).before a0 Z = true := hw _ (List.mem_of_getElem? (i := 147) rfl)
theorem pd_21 : parseMethodDescriptor "(IILjava/lang/String;)Z" = some ⟨[.int, .int, (.object "java/lang/String")], some .boolean⟩ := by decide +kernel
theorem wd145 {Z : State} {a0 : Array Value} (hw : ∀ d ∈ tables_1, d.before a0 Z = true) : (Jvm.Cond.instanceMethod ({ cls := "com/example/vipool/vipool/http/HttpHead", name := "equalsInAnyCase", desc := "(IILjava/lang/String;)Z" } : Jvm.MethodName)).before a0 Z = true := hw _ (List.mem_of_getElem? (i := 145) rfl)
theorem wd146 {Z : State} {a0 : Array Value} (hw : ∀ d ∈ tables_1, d.before a0 Z = true) : (Jvm.Cond.privateMethod ({ cls := "com/example/vipool/vipool/http/HttpHead", name := "equalsInAnyCase", desc := "(IILjava/lang/String;)Z" } : Jvm.MethodName)).before a0 Z = true := hw _ (List.mem_of_getElem? (i := 146) rfl)
theorem d_prog_7_method_42_30 : decode prog_7_method_42_code 30 = .ok (.ifCond .eq 7, 3) := by decide +kernel
theorem d_prog_7_method_42_33 : decode prog_7_method_42_code 33 = .ok (.iconst 1, 1) := by decide +kernel
theorem d_prog_7_method_42_34 : decode prog_7_method_42_code 34 = .ok (.goto 4, 3) := by decide +kernel
theorem d_prog_7_method_42_38 : decode prog_7_method_42_code 38 = .ok (.ireturn, 1) := by decide +kernel
theorem d_prog_7_method_42_37 : decode prog_7_method_42_code 37 = .ok (.iconst 0, 1) := by decide +kernel
set_option maxRecDepth 65536 in
set_option maxHeartbeats 40000000 in
theorem m_nmd {Z : State} {a0 : Array Value} (hw : ∀ d ∈ tables_1, d.before a0 Z = true) (a : Addr) (i : Int32) (s : Addr) (h0 : Heap) (n0 : Nat) (O0 : Old Z n0 h0) (cs : Int32) (S_CS : Sta Z Z.heap "java/lang/String" "COMPACT_STRINGS" "Z" (.int cs)) (hcs : ¬ cs = 0) (fv : Value) (hfv : fv.isRef = true) (S_FM : Sta Z Z.heap "jdk/internal/util/Preconditions" "SIOOBE_FORMATTER" "Ljava/util/function/BiFunction;" fv) (rw sp : Addr) (us fd : Int32) (g e : Nat → Int32) (R0 : Hh Z n0 h0 a rw sp us fd g e) (b : Addr) (n : Nat) (q : Nat → Int32) (sE : Exa Z h0 s "java/lang/String") (sV : Fld Z h0 s "java/lang/String" "value" "[B" (.ref b)) (sC : Fld Z h0 s "java/lang/String" "coder" "B" (.int 0)) (sA : Ari Z h0 b .byte n q) (hn : n ≤ 512) (I A B : Nat) (hi : i.toInt = (I : Int)) (hI : I ≤ 6) (hA : (e (4 * I)).toInt = (A : Int)) (hB : (e (4 * I + 1)).toInt = (B : Int)) (hAB : A ≤ B) (hB5 : B ≤ 512) : ∀ l, Does l Z (⟨"com/example/vipool/vipool/http/HttpHead", "named", "(ILjava/lang/String;)Z"⟩ : MethodName) prog_7_method_42_code 4 (some .boolean) ({ frames := 5, cells := 0, slots := 0, locals := 70 } : Room) n0 #[(.ref a), (.int i), (.ref s)] h0 (fun v h => ((v = some (.int 1) ∧ NM g A B n q) ∨ (v = some (.int 0) ∧ ¬ NM g A B n q)) ∧ h = h0) := by
  intro l
  refine Does.of_wp (plainFor_of_name pn_5) (Ls := #[.val (.ref a), .val (.int i), .val (.ref s), .unset]) (fun m => by first | (simp [entryFrame, mkF, argsToLocals, Value.category]; done) | rfl | (rcases ref_cases hfv with rfl | ⟨_, rfl⟩ <;> rfl)) ?_
  intro C
  obtain ⟨⟨ga1, gr1, gs1, nrs1, nra1, nsa1⟩, X1, ⟨Fraw_1, Fspans_1, Fused_1, Ffields_1, FsecondEnd_1, FsecondStart_1, Frequest_1⟩, AR1, AS1⟩ := id R0
  have m4 := mul4 hi (by omega)
  refine WP.aloadN (pc' := 1) d_prog_7_method_42_0 rfl rfl rfl ?_
  refine WP.getF (pc' := 4) d_prog_7_method_42_1 rfl (host := "") (Or.inl (wd70 hw)) Via.refl Fspans_1 ?_
  refine WP.iloadN (pc' := 5) d_prog_7_method_42_4 rfl rfl ?_
  refine WP.iconst (pc' := 6) d_prog_7_method_42_5 rfl (z := 4) rfl ?_
  refine WP.imul (pc' := 7) d_prog_7_method_42_6 rfl ?_
  refine WP.ialoadI (4 * I) (pc' := 8) d_prog_7_method_42_7 rfl AS1 m4 (by omega) rfl ?_
  refine WP.istoreN (pc' := 9) d_prog_7_method_42_8 rfl (Ls' := #[.val (.ref a), .val (.int i), .val (.ref s), .val (.int (e (4 * I)))]) rfl ?_
  refine WP.iloadN (pc' := 10) d_prog_7_method_42_9 rfl rfl ?_
  refine WP.iconst (pc' := 11) d_prog_7_method_42_10 rfl (z := -1) rfl ?_
  have hc11 : ¬ (e (4 * I)) = (-1 : Int32) := fun z => by rw [z] at hA; have e1 : (-1 : Int32).toInt = -1 := rfl; omega
  refine WP.icmp_eq (pc1 := 37) (pc2 := 14) d_prog_7_method_42_11 (by decide) (by decide) rfl (fun k => absurd k hc11) (fun _ => ?_)
  refine WP.aloadN (pc' := 15) d_prog_7_method_42_14 rfl rfl rfl ?_
  refine WP.iloadN (pc' := 16) d_prog_7_method_42_15 rfl rfl ?_
  refine WP.aloadN (pc' := 17) d_prog_7_method_42_16 rfl rfl rfl ?_
  refine WP.getF (pc' := 20) d_prog_7_method_42_17 rfl (host := "") (Or.inl (wd70 hw)) Via.refl Fspans_1 ?_
  refine WP.iloadN (pc' := 21) d_prog_7_method_42_20 rfl rfl ?_
  refine WP.iconst (pc' := 22) d_prog_7_method_42_21 rfl (z := 4) rfl ?_
  refine WP.imul (pc' := 23) d_prog_7_method_42_22 rfl ?_
  refine WP.iconst (pc' := 24) d_prog_7_method_42_23 rfl (z := 1) rfl ?_
  refine WP.iadd (pc' := 25) d_prog_7_method_42_24 rfl ?_
  refine WP.ialoadI (4 * I + 1) (pc' := 26) d_prog_7_method_42_25 rfl AS1 (adds m4 rfl (by omega)) (by omega) rfl ?_
  refine WP.aloadN (pc' := 27) d_prog_7_method_42_26 rfl rfl rfl ?_
  refine WP.callP (a := a) (argsL := [(.int (e (4 * I))), (.int (e (4 * I + 1))), (.ref s)]) (rest := []) (wd := 0) (cl' := 0) (sl' := 0) (pc' := 30) d_prog_7_method_42_27 rfl (wd144 hw) (wd145 hw) (selPriv (wd75 hw) rfl (wd146 hw) (wd145 hw) (by decide)) (wd146 hw) (wd62 hw) (wd147 hw) (by decide) R0.2.1 (m_eqa hw a (e (4 * I)) (e (4 * I + 1)) s h0 n0 O0 cs S_CS hcs fv hfv S_FM rw sp us fd g e R0 b n q sE sV sC sA hn A B hA hB hAB hB5) pd_21 rfl rfl rfl (Nat.le_of_eq rfl) (by decide) (by decide) rfl rfl (by decide) (by decide) ?_
  rintro v hh2 ⟨⟨rfl, qn2⟩ | ⟨rfl, qn2⟩, he2⟩ <;> rw [he2]
  · skip
    refine WP.castS (st' := [(.int (1 : Int32))]) rfl ?_
    have hc30 : ¬ (1 : Int32) = (0 : Int32) := by decide
    refine WP.ifc_eq (pc1 := 37) (pc2 := 33) d_prog_7_method_42_30 (by decide) (by decide) rfl (fun k => absurd k hc30) (fun _ => ?_)
    refine WP.iconst (pc' := 34) d_prog_7_method_42_33 rfl (z := 1) rfl ?_
    refine WP.goto (pc' := 38) d_prog_7_method_42_34 (by decide) (by decide) ?_
    refine WP.nret (t := .boolean) d_prog_7_method_42_38 rfl (by simp) rfl (by decide) (by decide) ⟨Or.inl ⟨rfl, qn2⟩, rfl⟩
  · skip
    refine WP.castS (st' := [(.int (0 : Int32))]) rfl ?_
    have hc30 : (0 : Int32) = (0 : Int32) := by decide
    refine WP.ifc_eq (pc1 := 37) (pc2 := 33) d_prog_7_method_42_30 (by decide) (by decide) rfl (fun _ => ?_) (fun k => absurd hc30 k)
    refine WP.iconst (pc' := 38) d_prog_7_method_42_37 rfl (z := 0) rfl ?_
    refine WP.nret (t := .boolean) d_prog_7_method_42_38 rfl (by simp) rfl (by decide) (by decide) ⟨Or.inr ⟨rfl, qn2⟩, rfl⟩
theorem d_prog_7_method_22_0 : decode prog_7_method_22_code 0 = .ok (.iconst 0, 1) := by decide +kernel
theorem d_prog_7_method_22_1 : decode prog_7_method_22_code 1 = .ok (.istore_n 2, 1) := by decide +kernel
theorem d_prog_7_method_22_2 : decode prog_7_method_22_code 2 = .ok (.iload_n 2, 1) := by decide +kernel
theorem d_prog_7_method_22_3 : decode prog_7_method_22_code 3 = .ok (.aload_n 0, 1) := by decide +kernel
theorem d_prog_7_method_22_4 : decode prog_7_method_22_code 4 = .ok (.getfield 117, 3) := by decide +kernel
theorem d_prog_7_method_22_7 : decode prog_7_method_22_code 7 = .ok (.if_icmp .ge 27, 3) := by decide +kernel
theorem d_prog_7_method_22_34 : decode prog_7_method_22_code 34 = .ok (.return_, 1) := by decide +kernel
theorem d_prog_7_method_22_10 : decode prog_7_method_22_code 10 = .ok (.aload_n 0, 1) := by decide +kernel
theorem d_prog_7_method_22_11 : decode prog_7_method_22_code 11 = .ok (.iload_n 2, 1) := by decide +kernel
theorem d_prog_7_method_22_12 : decode prog_7_method_22_code 12 = .ok (.aload_n 1, 1) := by decide +kernel
theorem d_prog_7_method_22_13 : decode prog_7_method_22_code 13 = .ok (.invokevirtual 151, 3) := by decide +kernel
theorem wd140 {Z : State} {a0 : Array Value} (hw : ∀ d ∈ tables_1, d.before a0 Z = true) : (Jvm.Cond.methodLink "com/example/vipool/vipool/http/HttpHead" (151 : Nat) ({ cls := "com/example/vipool/vipool/http/HttpHead", name := "named", desc := "(ILjava/lang/String;)Z" } : Jvm.MethodName)).before a0 Z = true := hw _ (List.mem_of_getElem? (i := 140) rfl)
theorem wd143 {Z : State} {a0 : Array Value} (hw : ∀ d ∈ tables_1, d.before a0 Z = true) : (Jvm.Cond.code ({ cls := "com/example/vipool/vipool/http/HttpHead", name := "named", desc := "(ILjava/lang/String;)Z" } : Jvm.MethodName) prog_7_method_42_code (4 : Nat) (Option.some Jvm.ClassFile.FieldType.boolean)).before a0 Z = true := hw _ (List.mem_of_getElem? (i := 143) rfl)
theorem pd_22 : parseMethodDescriptor "(ILjava/lang/String;)Z" = some ⟨[.int, (.object "java/lang/String")], some .boolean⟩ := by decide +kernel
theorem wd141 {Z : State} {a0 : Array Value} (hw : ∀ d ∈ tables_1, d.before a0 Z = true) : (Jvm.Cond.instanceMethod ({ cls := "com/example/vipool/vipool/http/HttpHead", name := "named", desc := "(ILjava/lang/String;)Z" } : Jvm.MethodName)).before a0 Z = true := hw _ (List.mem_of_getElem? (i := 141) rfl)
theorem wd142 {Z : State} {a0 : Array Value} (hw : ∀ d ∈ tables_1, d.before a0 Z = true) : (Jvm.Cond.privateMethod ({ cls := "com/example/vipool/vipool/http/HttpHead", name := "named", desc := "(ILjava/lang/String;)Z" } : Jvm.MethodName)).before a0 Z = true := hw _ (List.mem_of_getElem? (i := 142) rfl)
theorem d_prog_7_method_22_16 : decode prog_7_method_22_code 16 = .ok (.ifCond .eq 12, 3) := by decide +kernel
theorem d_prog_7_method_22_19 : decode prog_7_method_22_code 19 = .ok (.aload_n 0, 1) := by decide +kernel
theorem d_prog_7_method_22_20 : decode prog_7_method_22_code 20 = .ok (.getfield 15, 3) := by decide +kernel
theorem d_prog_7_method_22_23 : decode prog_7_method_22_code 23 = .ok (.iload_n 2, 1) := by decide +kernel
theorem d_prog_7_method_22_24 : decode prog_7_method_22_code 24 = .ok (.iconst 4, 1) := by decide +kernel
theorem d_prog_7_method_22_25 : decode prog_7_method_22_code 25 = .ok (.imul, 1) := by decide +kernel
theorem d_prog_7_method_22_26 : decode prog_7_method_22_code 26 = .ok (.iconst (-1), 1) := by decide +kernel
theorem d_prog_7_method_22_27 : decode prog_7_method_22_code 27 = .ok (.iastore, 1) := by decide +kernel
theorem d_prog_7_method_22_28 : decode prog_7_method_22_code 28 = .ok (.iinc 2 1, 3) := by decide +kernel
theorem d_prog_7_method_22_31 : decode prog_7_method_22_code 31 = .ok (.goto (-29), 3) := by decide +kernel
set_option maxRecDepth 65536 in
set_option maxHeartbeats 40000000 in
theorem m_rem {Z : State} {a0 : Array Value} (hw : ∀ d ∈ tables_1, d.before a0 Z = true) (a : Addr) (s : Addr) (h0 : Heap) (n0 : Nat) (Z0 : n0 ≤ h0.size) (O0 : Old Z n0 h0) (cs : Int32) (S_CS : Sta Z Z.heap "java/lang/String" "COMPACT_STRINGS" "Z" (.int cs)) (hcs : ¬ cs = 0) (fv : Value) (hfv : fv.isRef = true) (S_FM : Sta Z Z.heap "jdk/internal/util/Preconditions" "SIOOBE_FORMATTER" "Ljava/util/function/BiFunction;" fv) (rw sp : Addr) (us fd : Int32) (g e : Nat → Int32) (R0 : Hh Z n0 h0 a rw sp us fd g e) (b : Addr) (n : Nat) (q : Nat → Int32) (sE : Exa Z h0 s "java/lang/String") (sV : Fld Z h0 s "java/lang/String" "value" "[B" (.ref b)) (sC : Fld Z h0 s "java/lang/String" "coder" "B" (.int 0)) (sA : Ari Z h0 b .byte n q) (n_sa : s ≠ a) (n_srw : s ≠ rw) (n_ssp : s ≠ sp) (n_ba : b ≠ a) (n_brw : b ≠ rw) (n_bsp : b ≠ sp) (hn : n ≤ 512) (F : Nat) (As Bs : Nat → Nat) (hF : fd.toInt = (F : Int)) (hF7 : F ≤ 6) (hAB : ∀ j, j < F → (e (4 * j)).toInt = (As j : Int) ∧ (e (4 * j + 1)).toInt = (Bs j : Int) ∧ As j ≤ Bs j ∧ Bs j ≤ 512) : ∀ l, Does l Z (⟨"com/example/vipool/vipool/http/HttpHead", "remove", "(Ljava/lang/String;)V"⟩ : MethodName) prog_7_method_22_code 3 none ({ frames := 6, cells := 0, slots := 0, locals := 85 } : Room) n0 #[(.ref a), (.ref s)] h0 (fun v h => v = none ∧ ∃ e' : Nat → Int32, Keep h0 h [sp] ∧ Hh Z n0 h a rw sp us fd g e' ∧ (∀ j, ¬ j % 4 = 0 → e' j = e j) ∧ ∀ j, j < F → (NM g (As j) (Bs j) n q → e' (4 * j) = -1) ∧ (¬ NM g (As j) (Bs j) n q → e' (4 * j) = e (4 * j))) := by
  intro l
  refine Does.of_wp (plainFor_of_name pn_5) (Ls := #[.val (.ref a), .val (.ref s), .unset]) (fun m => by first | (simp [entryFrame, mkF, argsToLocals, Value.category]; done) | rfl | (rcases ref_cases hfv with rfl | ⟨_, rfl⟩ <;> rfl)) ?_
  intro C
  obtain ⟨⟨ga1, gr1, gs1, nrs1, nra1, nsa1⟩, X1, ⟨Fraw_1, Fspans_1, Fused_1, Ffields_1, FsecondEnd_1, FsecondStart_1, Frequest_1⟩, AR1, AS1⟩ := id R0
  refine WP.iconst (pc' := 1) d_prog_7_method_22_0 rfl (z := 0) rfl ?_
  refine WP.istoreN (pc' := 2) d_prog_7_method_22_1 rfl (Ls' := #[.val (.ref a), .val (.ref s), .val (.int (0 : Int32))]) rfl ?_
  have loop : ∀ (k I : Nat) (i : Int32) (hh : Heap) (E : Nat → Int32), i.toInt = (I : Int) → I ≤ F → F - I < k → Keep h0 hh [sp] → Ari Z hh sp .int 32 E → (∀ j, ¬ j % 4 = 0 → E j = e j) → (∀ j, I ≤ j → E (4 * j) = e (4 * j)) → (∀ j, j < I → (NM g (As j) (Bs j) n q → E (4 * j) = -1) ∧ (¬ NM g (As j) (Bs j) n q → E (4 * j) = e (4 * j))) → WP C Z prog_7_method_22_code 3 "com/example/vipool/vipool/http/HttpHead" none "remove" ({ frames := 6, cells := 0, slots := 0, locals := 85 } : Room) n0 (fun v h => v = none ∧ ∃ e' : Nat → Int32, Keep h0 h [sp] ∧ Hh Z n0 h a rw sp us fd g e' ∧ (∀ j, ¬ j % 4 = 0 → e' j = e j) ∧ ∀ j, j < F → (NM g (As j) (Bs j) n q → e' (4 * j) = -1) ∧ (¬ NM g (As j) (Bs j) n q → e' (4 * j) = e (4 * j))) 0 0 hh 2 #[.val (.ref a), .val (.ref s), .val (.int i)] [] := by
    intro k
    induction k with
    | zero => intro I i hh E h1 h2 h3; omega
    | succ k IH =>
      intro I i hh E hi hI hk K1 AE hE1 hE2 hE3
      have E2 := X1.keep K1
      have F3 := Fraw_1.keep K1 (ninS (Ne.symm nsa1) nin0)
      have F4 := Fspans_1.keep K1 (ninS (Ne.symm nsa1) nin0)
      have F5 := Fused_1.keep K1 (ninS (Ne.symm nsa1) nin0)
      have F6 := Ffields_1.keep K1 (ninS (Ne.symm nsa1) nin0)
      have F7 := FsecondEnd_1.keep K1 (ninS (Ne.symm nsa1) nin0)
      have F8 := FsecondStart_1.keep K1 (ninS (Ne.symm nsa1) nin0)
      have F9 := Frequest_1.keep K1 (ninS (Ne.symm nsa1) nin0)
      have V10 := AR1.keep K1 (ninS nrs1 nin0)
      have E11 := sE.keep K1
      have F12 := sV.keep K1 (ninS n_ssp nin0)
      have F13 := sC.keep K1 (ninS n_ssp nin0)
      have V14 := sA.keep K1 (ninS n_bsp nin0)
      have O15 := O0.keep K1 (allS gs1 all0)
      have Z16 : n0 ≤ hh.size := Nat.le_trans Z0 K1.1
      refine WP.iloadN (pc' := 3) d_prog_7_method_22_2 rfl rfl ?_
      refine WP.aloadN (pc' := 4) d_prog_7_method_22_3 rfl rfl rfl ?_
      refine WP.getF (pc' := 7) d_prog_7_method_22_4 rfl (host := "") (Or.inl (wd83 hw)) Via.refl F6 ?_
      refine WP.icmp_ge (pc1 := 34) (pc2 := 10) d_prog_7_method_22_7 (by decide) (by decide) rfl ?_ ?_
      · intro hc7
        exact WP.vret d_prog_7_method_22_34 rfl (by decide) (by decide) ⟨rfl, E, K1, ⟨⟨ga1, gr1, gs1, nrs1, nra1, nsa1⟩, E2, ⟨F3, F4, F5, F6, F7, F8, F9⟩, V10, AE⟩, hE1, fun j hj => hE3 j (by rw [Int32.lt_iff_toInt_lt] at hc7; omega)⟩
      · intro hc7
        have lt1 : I < F := by rw [Int32.lt_iff_toInt_lt] at hc7; omega
        have m4 := mul4 hi (by omega)
        obtain ⟨ab1, ab2, ab3, ab4⟩ := hAB I lt1
        have ab5 := (congrArg Int32.toInt (hE2 I (Nat.le_refl _))).trans ab1
        have ab6 := (congrArg Int32.toInt (hE1 (4 * I + 1) (by omega))).trans ab2
        have RR : Hh Z n0 hh a rw sp us fd g E := ⟨⟨ga1, gr1, gs1, nrs1, nra1, nsa1⟩, E2, ⟨F3, F4, F5, F6, F7, F8, F9⟩, V10, AE⟩
        refine WP.aloadN (pc' := 11) d_prog_7_method_22_10 rfl rfl rfl ?_
        refine WP.iloadN (pc' := 12) d_prog_7_method_22_11 rfl rfl ?_
        refine WP.aloadN (pc' := 13) d_prog_7_method_22_12 rfl rfl rfl ?_
        refine WP.callP (a := a) (argsL := [(.int i), (.ref s)]) (rest := []) (wd := 0) (cl' := 0) (sl' := 0) (pc' := 16) d_prog_7_method_22_13 rfl (wd140 hw) (wd141 hw) (selPriv (wd75 hw) rfl (wd142 hw) (wd141 hw) (by decide)) (wd142 hw) (wd62 hw) (wd143 hw) (by decide) RR.2.1 (m_nmd hw a i s hh n0 O15 cs S_CS hcs fv hfv S_FM rw sp us fd g E RR b n q E11 F12 F13 V14 hn I (As I) (Bs I) hi (by omega) ab5 ab6 ab3 ab4) pd_22 rfl rfl rfl (Nat.le_of_eq rfl) (by decide) (by decide) rfl rfl (by decide) (by decide) ?_
        rintro v hh17 ⟨⟨rfl, qr17⟩ | ⟨rfl, qr17⟩, he17⟩ <;> rw [he17]
        · skip
          refine WP.castS (st' := [(.int (1 : Int32))]) rfl ?_
          have hc16 : ¬ (1 : Int32) = (0 : Int32) := by decide
          refine WP.ifc_eq (pc1 := 28) (pc2 := 19) d_prog_7_method_22_16 (by decide) (by decide) rfl (fun k => absurd k hc16) (fun _ => ?_)
          refine WP.aloadN (pc' := 20) d_prog_7_method_22_19 rfl rfl rfl ?_
          refine WP.getF (pc' := 23) d_prog_7_method_22_20 rfl (host := "") (Or.inl (wd70 hw)) Via.refl F4 ?_
          refine WP.iloadN (pc' := 24) d_prog_7_method_22_23 rfl rfl ?_
          refine WP.iconst (pc' := 25) d_prog_7_method_22_24 rfl (z := 4) rfl ?_
          refine WP.imul (pc' := 26) d_prog_7_method_22_25 rfl ?_
          refine WP.iconst (pc' := 27) d_prog_7_method_22_26 rfl (z := -1) rfl ?_
          refine WP.iastoreI (x' := (-1 : Int32)) (4 * I) (pc' := 28) d_prog_7_method_22_27 rfl AE m4 (by omega) gs1 rfl ?_
          intro h18 K19 A20
          have E21 := E2.keep K19
          have F22 := F3.keep K19 (ninS (Ne.symm nsa1) nin0)
          have F23 := F4.keep K19 (ninS (Ne.symm nsa1) nin0)
          have F24 := F5.keep K19 (ninS (Ne.symm nsa1) nin0)
          have F25 := F6.keep K19 (ninS (Ne.symm nsa1) nin0)
          have F26 := F7.keep K19 (ninS (Ne.symm nsa1) nin0)
          have F27 := F8.keep K19 (ninS (Ne.symm nsa1) nin0)
          have F28 := F9.keep K19 (ninS (Ne.symm nsa1) nin0)
          have V29 := V10.keep K19 (ninS nrs1 nin0)
          have E30 := E11.keep K19
          have F31 := F12.keep K19 (ninS n_ssp nin0)
          have F32 := F13.keep K19 (ninS n_ssp nin0)
          have V33 := V14.keep K19 (ninS n_bsp nin0)
          have O34 := O15.keep K19 (allS gs1 all0)
          have K35 := K1.trans K19 (allS (Or.inl (by simp)) all0)
          have Z36 : n0 ≤ h18.size := Nat.le_trans Z16 K19.1
          refine WP.iinc (pc' := 31) d_prog_7_method_22_28 rfl rfl (z := (i + (1 : Int32))) rfl (Ls' := #[.val (.ref a), .val (.ref s), .val (.int (i + (1 : Int32)))]) rfl ?_
          refine WP.goto (pc' := 2) d_prog_7_method_22_31 (by decide) (by decide) ?_
          exact IH (I + 1) _ _ _ (adds hi rfl (by omega)) (by omega) (by omega) K35 A20 (fun j hj => (upd_ne (by omega)).trans (hE1 j hj)) (fun j hj => (upd_ne (by omega)).trans (hE2 j (by omega))) (fun j hj => if z : j = I then ⟨fun _ => by rw [z, upd_at], fun y => absurd qr17 (z ▸ y)⟩ else ⟨fun y => (upd_ne (by omega)).trans ((hE3 j (by omega)).1 y), fun y => (upd_ne (by omega)).trans ((hE3 j (by omega)).2 y)⟩)
        · skip
          refine WP.castS (st' := [(.int (0 : Int32))]) rfl ?_
          have hc16 : (0 : Int32) = (0 : Int32) := by decide
          refine WP.ifc_eq (pc1 := 28) (pc2 := 19) d_prog_7_method_22_16 (by decide) (by decide) rfl (fun _ => ?_) (fun k => absurd hc16 k)
          refine WP.iinc (pc' := 31) d_prog_7_method_22_28 rfl rfl (z := (i + (1 : Int32))) rfl (Ls' := #[.val (.ref a), .val (.ref s), .val (.int (i + (1 : Int32)))]) rfl ?_
          refine WP.goto (pc' := 2) d_prog_7_method_22_31 (by decide) (by decide) ?_
          exact IH (I + 1) _ _ _ (adds hi rfl (by omega)) (by omega) (by omega) K1 AE hE1 (fun j hj => hE2 j (by omega)) (fun j hj => if z : j = I then ⟨fun y => absurd (z ▸ y) qr17, fun _ => hE2 j (by omega)⟩ else hE3 j (by omega))
  exact loop (F + 1) 0 0 h0 e rfl (by omega) (by omega) (Keep.refl _ _) AS1 (fun _ _ => rfl) (fun _ _ => rfl) fun j hj => absurd hj (by omega)
theorem ring1 (u n m : Int32) : (u + n - u + 2 + (u + n + m) - (u + n) + 2) = n + m + 4 := by grind
theorem ringA (a b c : Int32) : 17 + b + c = 17 + a + b + c - a := by grind
theorem ringB (a b c : Int32) : 17 + a + c = 17 + a + b + c - b := by grind
theorem ringC (a b c : Int32) : 17 + a + b = 17 + a + b + c - c := by grind
theorem ringAB (a b c : Int32) : 17 + c = 17 + a + b + c - a - b := by grind
theorem ringAC (a b c : Int32) : 17 + b = 17 + a + b + c - a - c := by grind
theorem ringBC (a b c : Int32) : 17 + a = 17 + a + b + c - b - c := by grind
theorem ringABC (a b c : Int32) : 17 = 17 + a + b + c - a - b - c := by grind
theorem lay_in {g q : Nat → Int32} {U n k : Nat} (h : U ≤ k ∧ k < U + n) : lay g U n q k = q (k - U) := by unfold lay; rw [if_pos h]
theorem lay_out {g q : Nat → Int32} {U n k : Nat} (h : k < U) : lay g U n q k = g k := by unfold lay; rw [if_neg (by omega)]
def ng (k : Int32) : Nat → Int32 := (fun i => cv (ch3 (lett ((k.toUInt32 >>> ((2 : Int32) &&& 31).toUInt32).toInt32)) (lett ((k.toUInt32 >>> ((4 : Int32) &&& 31).toUInt32).toInt32)) (lett ((k.toUInt32 >>> ((6 : Int32) &&& 31).toUInt32).toInt32)) i))
theorem and3 (x : Int32) : x &&& 3 = 0 ∨ x &&& 3 = 1 ∨ x &&& 3 = 2 ∨ x &&& 3 = 3 := by
  have h := c_mask x 3 2 (by decide) (by decide)
  have e : ∀ z : Int32, x &&& 3 = z ↔ (x &&& 3).toInt = z.toInt := fun z => Int32.toInt_inj.symm
  rw [e, e, e, e]
  simp only [Int32.reduceToInt]
  omega
theorem lett_v (x : Int32) : ((x &&& 3).toInt = 0 ∧ lett x = 97) ∨ ((x &&& 3).toInt = 1 ∧ lett x = 65) ∨ ((x &&& 3).toInt = 2 ∧ lett x = 98) ∨ ((x &&& 3).toInt = 3 ∧ lett x = 66) := by
  rcases and3 x with h | h | h | h <;> simp only [lett, h] <;> decide
theorem sa_lett (x y : Int32) : SA (cv (lett x)) (chv (cv (lett y))) ↔ (x &&& 3).toInt / 2 = (y &&& 3).toInt / 2 := by
  rcases lett_v x with ⟨h1, h2⟩ | ⟨h1, h2⟩ | ⟨h1, h2⟩ | ⟨h1, h2⟩ <;> rcases lett_v y with ⟨h3, h4⟩ | ⟨h3, h4⟩ | ⟨h3, h4⟩ | ⟨h3, h4⟩ <;> rw [h1, h2, h3, h4] <;> unfold SA Lt' cv chv <;> decide
theorem sa_bt (k m : Int32) (s t : Int32) (a : Nat) (ha : 0 < a) (hs : s.toBitVec.toNat % 32 = a) (ht : t.toBitVec.toNat % 32 = a + 1) (h31 : a < 31) : ((((k.toUInt32 >>> (s &&& 31).toUInt32).toInt32) &&& 3).toInt / 2 = (((m.toUInt32 >>> (s &&& 31).toUInt32).toInt32) &&& 3).toInt / 2) ↔ bt k t = bt m t := by
  unfold bt
  rw [← Int32.toInt_inj, c_mask _ 3 2 (by decide) (by decide), c_mask _ 3 2 (by decide) (by decide), c_mask _ 1 1 (by decide) (by decide), c_mask _ 1 1 (by decide) (by decide), c_iushr k s a hs ha, c_iushr m s a hs ha, c_iushr k t (a + 1) ht (by omega), c_iushr m t (a + 1) ht (by omega)]
  have e : ∀ z : Int, z / ((2 ^ (a + 1) : Nat) : Int) = z / ((2 ^ a : Nat) : Int) / 2 := fun z => by
    rw [show (2 ^ (a + 1) : Nat) = 2 ^ a * 2 from Nat.pow_succ .., Int.natCast_mul, Int.ediv_ediv_of_nonneg (Int.natCast_nonneg _)]; rfl
  rw [e, e]
  generalize k.toInt % 4294967296 / ((2 ^ a : Nat) : Int) = p
  generalize m.toInt % 4294967296 / ((2 ^ a : Nat) : Int) = r
  show p % 4 / 2 = r % 4 / 2 ↔ p / 2 % 2 = r / 2 % 2
  omega
theorem lt_iff {x : Int32} {N k : Nat} {z : Int32} (h : x.toInt = (N : Int)) (hz : z.toInt = (k : Int)) : x < z ↔ N < k := by rw [Int32.lt_iff_toInt_lt, h, hz]; omega
theorem nm_sm {g : Nat → Int32} {A N M : Nat} {k m : Int32} (hk : (k &&& 3).toInt = (N : Int)) (hm : (m &&& 3).toInt = (M : Int)) (hN : N ≤ 3) (hg : ∀ i, i < N → g (A + i) = ng k i) : NM g A (A + N) M (ng m) ↔ SM k m := by
  have b1 := sa_bt k m 2 3 2 (by decide) (by decide) (by decide) (by decide)
  have b2 := sa_bt k m 4 5 4 (by decide) (by decide) (by decide) (by decide)
  have b3 := sa_bt k m 6 7 6 (by decide) (by decide) (by decide) (by decide)
  have c1 := lt_iff (z := 1) (k := 1) hk rfl
  have c2 := lt_iff (z := 2) (k := 2) hk rfl
  have c3 := lt_iff (z := 3) (k := 3) hk rfl
  have hE : (k &&& 3) = (m &&& 3) ↔ N = M := by rw [← Int32.toInt_inj, hk, hm]; omega
  unfold SM NM
  rw [hE, c1, c2, c3, ← b1, ← b2, ← b3, ← sa_lett, ← sa_lett, ← sa_lett, show A + N - A = N by omega]
  constructor
  · rintro ⟨rfl, h⟩
    exact ⟨rfl, fun z => by have := h 0 (by omega); rw [hg 0 (by omega)] at this; exact this, fun z => by have := h 1 (by omega); rw [hg 1 (by omega)] at this; exact this, fun z => by have := h 2 (by omega); rw [hg 2 (by omega)] at this; exact this⟩
  · rintro ⟨rfl, h0, h1, h2⟩
    refine ⟨rfl, fun i hi => ?_⟩
    rw [hg i hi]
    have : i = 0 ∨ i = 1 ∨ i = 2 := by omega
    rcases this with rfl | rfl | rfl
    · exact h0 (by omega)
    · exact h1 (by omega)
    · exact h2 (by omega)
theorem sz_in {e e' : Nat → Int32} {j : Nat} {w : Int32} (h : ¬ e (4 * j) = -1) (hc : e (4 * j + 1) - e (4 * j) + 2 + e (4 * j + 3) - e (4 * j + 2) + 2 = w) (h0 : e' (4 * j) = e (4 * j)) (hr : ∀ k, ¬ k % 4 = 0 → e' k = e k) : sz e' (j + 1) = sz e' j + w := by
  rw [← sz_n (by rw [h0]; exact h), h0, hr _ (by omega), hr (4 * j + 3) (by omega), hr (4 * j + 2) (by omega), hc]
theorem n_of (x : Int32) : ∃ N : Nat, (x &&& 3).toInt = (N : Int) ∧ N ≤ 3 := by
  have h := c_mask x 3 2 (by decide) (by decide)
  exact ⟨(x &&& 3).toInt.toNat, by omega, by omega⟩
theorem nneg {x : Int32} {n : Nat} (h : x.toInt = (n : Int)) : ¬ x = -1 := fun q => by rw [q, show (-1 : Int32).toInt = -1 from rfl] at h; omega
theorem ringO (a b c : Int32) : 17 + a + b + c = 17 + a + b + c := rfl
theorem wd0 {Z : State} {a0 : Array Value} (hw : ∀ d ∈ tables_1, d.before a0 Z = true) : (Jvm.Cond.methodLink "com/example/vipool/vipool/http/HttpHeadSizePinLaw" (7 : Nat) ({ cls := "com/example/vipool/vipool/http/HttpHeadSizePinLaw", name := "name", desc := "(I)Ljava/lang/String;" } : Jvm.MethodName)).before a0 Z = true := hw _ (List.mem_of_getElem? (i := 0) rfl)
theorem wd3 {Z : State} {a0 : Array Value} (hw : ∀ d ∈ tables_1, d.before a0 Z = true) : (Jvm.Cond.code ({ cls := "com/example/vipool/vipool/http/HttpHeadSizePinLaw", name := "name", desc := "(I)Ljava/lang/String;" } : Jvm.MethodName) method_4_code (1 : Nat) (Option.some (Jvm.ClassFile.FieldType.object "java/lang/String"))).before a0 Z = true := hw _ (List.mem_of_getElem? (i := 3) rfl)
theorem pd_23 : parseMethodDescriptor "(I)Ljava/lang/String;" = some ⟨[.int], some (.object "java/lang/String")⟩ := by decide +kernel
theorem wd1 {Z : State} {a0 : Array Value} (hw : ∀ d ∈ tables_1, d.before a0 Z = true) : (Jvm.Cond.static ({ cls := "com/example/vipool/vipool/http/HttpHeadSizePinLaw", name := "name", desc := "(I)Ljava/lang/String;" } : Jvm.MethodName)).before a0 Z = true := hw _ (List.mem_of_getElem? (i := 1) rfl)
theorem wd32 {Z : State} {a0 : Array Value} (hw : ∀ d ∈ tables_1, d.before a0 Z = true) : (Jvm.Cond.methodLink "com/example/vipool/vipool/http/HttpHeadSizePinLaw" (13 : Nat) ({ cls := "com/example/vipool/vipool/http/HttpHeadSizePinLaw", name := "value", desc := "(I)Ljava/lang/String;" } : Jvm.MethodName)).before a0 Z = true := hw _ (List.mem_of_getElem? (i := 32) rfl)
theorem wd34 {Z : State} {a0 : Array Value} (hw : ∀ d ∈ tables_1, d.before a0 Z = true) : (Jvm.Cond.code ({ cls := "com/example/vipool/vipool/http/HttpHeadSizePinLaw", name := "value", desc := "(I)Ljava/lang/String;" } : Jvm.MethodName) method_5_code (1 : Nat) (Option.some (Jvm.ClassFile.FieldType.object "java/lang/String"))).before a0 Z = true := hw _ (List.mem_of_getElem? (i := 34) rfl)
theorem wd33 {Z : State} {a0 : Array Value} (hw : ∀ d ∈ tables_1, d.before a0 Z = true) : (Jvm.Cond.static ({ cls := "com/example/vipool/vipool/http/HttpHeadSizePinLaw", name := "value", desc := "(I)Ljava/lang/String;" } : Jvm.MethodName)).before a0 Z = true := hw _ (List.mem_of_getElem? (i := 33) rfl)
theorem wd60 {Z : State} {a0 : Array Value} (hw : ∀ d ∈ tables_1, d.before a0 Z = true) : (Jvm.Cond.classLink "com/example/vipool/vipool/http/HttpHeadSizePinLaw" (16 : Nat) "com/example/vipool/vipool/http/HttpHead").before a0 Z = true := hw _ (List.mem_of_getElem? (i := 60) rfl)
theorem wd155 {Z : State} {a0 : Array Value} (hw : ∀ d ∈ tables_1, d.before a0 Z = true) : (Jvm.Cond.lays "com/example/vipool/vipool/http/HttpHead" "com/example/vipool/vipool/http/HttpHead" "firstEnd" "I").before a0 Z = true := hw _ (List.mem_of_getElem? (i := 155) rfl)
theorem wd63 {Z : State} {a0 : Array Value} (hw : ∀ d ∈ tables_1, d.before a0 Z = true) : (Jvm.Cond.methodLink "com/example/vipool/vipool/http/HttpHeadSizePinLaw" (18 : Nat) ({ cls := "com/example/vipool/vipool/http/HttpHead", name := "<init>", desc := "()V" } : Jvm.MethodName)).before a0 Z = true := hw _ (List.mem_of_getElem? (i := 63) rfl)
theorem wd65 {Z : State} {a0 : Array Value} (hw : ∀ d ∈ tables_1, d.before a0 Z = true) : (Jvm.Cond.code ({ cls := "com/example/vipool/vipool/http/HttpHead", name := "<init>", desc := "()V" } : Jvm.MethodName) prog_7_method_1_code (1 : Nat) (Option.none : Option Jvm.ClassFile.FieldType)).before a0 Z = true := hw _ (List.mem_of_getElem? (i := 65) rfl)
theorem pd_24 : parseMethodDescriptor "()V" = some ⟨[], none⟩ := by decide +kernel
theorem wd64 {Z : State} {a0 : Array Value} (hw : ∀ d ∈ tables_1, d.before a0 Z = true) : (Jvm.Cond.instanceMethod ({ cls := "com/example/vipool/vipool/http/HttpHead", name := "<init>", desc := "()V" } : Jvm.MethodName)).before a0 Z = true := hw _ (List.mem_of_getElem? (i := 64) rfl)
theorem wd72 {Z : State} {a0 : Array Value} (hw : ∀ d ∈ tables_1, d.before a0 Z = true) : (Jvm.Cond.methodLink "com/example/vipool/vipool/http/HttpHeadSizePinLaw" (19 : Nat) ({ cls := "com/example/vipool/vipool/http/HttpHead", name := "size", desc := "()I" } : Jvm.MethodName)).before a0 Z = true := hw _ (List.mem_of_getElem? (i := 72) rfl)
theorem wd76 {Z : State} {a0 : Array Value} (hw : ∀ d ∈ tables_1, d.before a0 Z = true) : (Jvm.Cond.code ({ cls := "com/example/vipool/vipool/http/HttpHead", name := "size", desc := "()I" } : Jvm.MethodName) prog_7_method_26_code (4 : Nat) (Option.some Jvm.ClassFile.FieldType.int)).before a0 Z = true := hw _ (List.mem_of_getElem? (i := 76) rfl)
theorem wd73 {Z : State} {a0 : Array Value} (hw : ∀ d ∈ tables_1, d.before a0 Z = true) : (Jvm.Cond.declares ({ cls := "com/example/vipool/vipool/http/HttpHead", name := "size", desc := "()I" } : Jvm.MethodName)).before a0 Z = true := hw _ (List.mem_of_getElem? (i := 73) rfl)
theorem wd74 {Z : State} {a0 : Array Value} (hw : ∀ d ∈ tables_1, d.before a0 Z = true) : (Jvm.Cond.instanceMethod ({ cls := "com/example/vipool/vipool/http/HttpHead", name := "size", desc := "()I" } : Jvm.MethodName)).before a0 Z = true := hw _ (List.mem_of_getElem? (i := 74) rfl)
theorem wd85 {Z : State} {a0 : Array Value} (hw : ∀ d ∈ tables_1, d.before a0 Z = true) : (Jvm.Cond.methodLink "com/example/vipool/vipool/http/HttpHeadSizePinLaw" (23 : Nat) ({ cls := "com/example/vipool/vipool/http/HttpHead", name := "add", desc := "(Ljava/lang/String;Ljava/lang/String;)V" } : Jvm.MethodName)).before a0 Z = true := hw _ (List.mem_of_getElem? (i := 85) rfl)
theorem wd89 {Z : State} {a0 : Array Value} (hw : ∀ d ∈ tables_1, d.before a0 Z = true) : (Jvm.Cond.code ({ cls := "com/example/vipool/vipool/http/HttpHead", name := "add", desc := "(Ljava/lang/String;Ljava/lang/String;)V" } : Jvm.MethodName) prog_7_method_24_code (5 : Nat) (Option.none : Option Jvm.ClassFile.FieldType)).before a0 Z = true := hw _ (List.mem_of_getElem? (i := 89) rfl)
theorem pd_25 : parseMethodDescriptor "(Ljava/lang/String;Ljava/lang/String;)V" = some ⟨[(.object "java/lang/String"), (.object "java/lang/String")], none⟩ := by decide +kernel
theorem wd88 {Z : State} {a0 : Array Value} (hw : ∀ d ∈ tables_1, d.before a0 Z = true) : (Jvm.Cond.selects "com/example/vipool/vipool/http/HttpHead" ({ cls := "com/example/vipool/vipool/http/HttpHead", name := "add", desc := "(Ljava/lang/String;Ljava/lang/String;)V" } : Jvm.MethodName) ({ cls := "com/example/vipool/vipool/http/HttpHead", name := "add", desc := "(Ljava/lang/String;Ljava/lang/String;)V" } : Jvm.MethodName)).before a0 Z = true := hw _ (List.mem_of_getElem? (i := 88) rfl)
theorem wd86 {Z : State} {a0 : Array Value} (hw : ∀ d ∈ tables_1, d.before a0 Z = true) : (Jvm.Cond.declares ({ cls := "com/example/vipool/vipool/http/HttpHead", name := "add", desc := "(Ljava/lang/String;Ljava/lang/String;)V" } : Jvm.MethodName)).before a0 Z = true := hw _ (List.mem_of_getElem? (i := 86) rfl)
theorem wd87 {Z : State} {a0 : Array Value} (hw : ∀ d ∈ tables_1, d.before a0 Z = true) : (Jvm.Cond.instanceMethod ({ cls := "com/example/vipool/vipool/http/HttpHead", name := "add", desc := "(Ljava/lang/String;Ljava/lang/String;)V" } : Jvm.MethodName)).before a0 Z = true := hw _ (List.mem_of_getElem? (i := 87) rfl)
theorem wd135 {Z : State} {a0 : Array Value} (hw : ∀ d ∈ tables_1, d.before a0 Z = true) : (Jvm.Cond.methodLink "com/example/vipool/vipool/http/HttpHeadSizePinLaw" (27 : Nat) ({ cls := "com/example/vipool/vipool/http/HttpHead", name := "remove", desc := "(Ljava/lang/String;)V" } : Jvm.MethodName)).before a0 Z = true := hw _ (List.mem_of_getElem? (i := 135) rfl)
theorem wd139 {Z : State} {a0 : Array Value} (hw : ∀ d ∈ tables_1, d.before a0 Z = true) : (Jvm.Cond.code ({ cls := "com/example/vipool/vipool/http/HttpHead", name := "remove", desc := "(Ljava/lang/String;)V" } : Jvm.MethodName) prog_7_method_22_code (3 : Nat) (Option.none : Option Jvm.ClassFile.FieldType)).before a0 Z = true := hw _ (List.mem_of_getElem? (i := 139) rfl)
theorem wd138 {Z : State} {a0 : Array Value} (hw : ∀ d ∈ tables_1, d.before a0 Z = true) : (Jvm.Cond.selects "com/example/vipool/vipool/http/HttpHead" ({ cls := "com/example/vipool/vipool/http/HttpHead", name := "remove", desc := "(Ljava/lang/String;)V" } : Jvm.MethodName) ({ cls := "com/example/vipool/vipool/http/HttpHead", name := "remove", desc := "(Ljava/lang/String;)V" } : Jvm.MethodName)).before a0 Z = true := hw _ (List.mem_of_getElem? (i := 138) rfl)
theorem wd136 {Z : State} {a0 : Array Value} (hw : ∀ d ∈ tables_1, d.before a0 Z = true) : (Jvm.Cond.declares ({ cls := "com/example/vipool/vipool/http/HttpHead", name := "remove", desc := "(Ljava/lang/String;)V" } : Jvm.MethodName)).before a0 Z = true := hw _ (List.mem_of_getElem? (i := 136) rfl)
theorem wd137 {Z : State} {a0 : Array Value} (hw : ∀ d ∈ tables_1, d.before a0 Z = true) : (Jvm.Cond.instanceMethod ({ cls := "com/example/vipool/vipool/http/HttpHead", name := "remove", desc := "(Ljava/lang/String;)V" } : Jvm.MethodName)).before a0 Z = true := hw _ (List.mem_of_getElem? (i := 137) rfl)
theorem wd148 {Z : State} {a0 : Array Value} (hw : ∀ d ∈ tables_1, d.before a0 Z = true) : (Jvm.Cond.methodLink "com/example/vipool/vipool/http/HttpHeadSizePinLaw" (31 : Nat) ({ cls := "com/example/vipool/vipool/http/HttpHeadSizePinLaw", name := "same", desc := "(II)Z" } : Jvm.MethodName)).before a0 Z = true := hw _ (List.mem_of_getElem? (i := 148) rfl)
theorem wd150 {Z : State} {a0 : Array Value} (hw : ∀ d ∈ tables_1, d.before a0 Z = true) : (Jvm.Cond.code ({ cls := "com/example/vipool/vipool/http/HttpHeadSizePinLaw", name := "same", desc := "(II)Z" } : Jvm.MethodName) method_7_code (6 : Nat) (Option.some Jvm.ClassFile.FieldType.boolean)).before a0 Z = true := hw _ (List.mem_of_getElem? (i := 150) rfl)
theorem wd149 {Z : State} {a0 : Array Value} (hw : ∀ d ∈ tables_1, d.before a0 Z = true) : (Jvm.Cond.static ({ cls := "com/example/vipool/vipool/http/HttpHeadSizePinLaw", name := "same", desc := "(II)Z" } : Jvm.MethodName)).before a0 Z = true := hw _ (List.mem_of_getElem? (i := 149) rfl)
set_option maxRecDepth 65536 in
set_option maxHeartbeats 40000000 in
theorem rm0 {Z : State} {a0 : Array Value} (hw : ∀ d ∈ tables_1, d.before a0 Z = true) (x0 : Int32) (x1 : Int32) (x2 : Int32) (x3 : Int32) (x4 : Int32) (h0 : Heap) (n0 : Nat) (Z0 : n0 ≤ h0.size) (O0 : Old Z n0 h0) (cs : Int32) (S_CS : Sta Z Z.heap "java/lang/String" "COMPACT_STRINGS" "Z" (.int cs)) (hcs : ¬ cs = 0) (fv : Value) (hfv : fv.isRef = true) (S_FM : Sta Z Z.heap "jdk/internal/util/Preconditions" "SIOOBE_FORMATTER" "Ljava/util/function/BiFunction;" fv) : ∀ l, DoesW l Z consts_1 x code maxLocals ret room_1 n0 #[(.int x0), (.int x1), (.int x2), (.int x3), (.int x4)] h0 (fun v _ => v = some (.int 1)) := by
  intro l
  refine DoesW.of_wp (plainFor_of_name pn_4) (Ls := #[.val (.int x0), .val (.int x1), .val (.int x2), .val (.int x3), .val (.int x4), .unset, .unset, .unset, .unset, .unset, .unset, .unset, .unset, .unset, .unset, .unset, .unset, .unset, .unset, .unset, .unset, .unset, .unset, .unset, .unset]) (fun m => by first | (simp [entryFrame, mkF, argsToLocals, Value.category, maxLocals]; done) | rfl | (rcases ref_cases hfv with rfl | ⟨_, rfl⟩ <;> rfl)) ?_
  intro C vm0 Hd0
  refine WP.iloadN (pc' := 1) at_0 rfl rfl ?_
  refine WP.sipush (pc' := 4) at_1 rfl (z := 255) rfl ?_
  refine WP.iand (pc' := 5) at_4 rfl ?_
  generalize ht1 : (x0 &&& (255 : Int32)) = t1
  refine WP.istore (pc' := 7) at_5 rfl (Ls' := #[.val (.int x0), .val (.int x1), .val (.int x2), .val (.int x3), .val (.int x4), .val (.int t1), .unset, .unset, .unset, .unset, .unset, .unset, .unset, .unset, .unset, .unset, .unset, .unset, .unset, .unset, .unset, .unset, .unset, .unset, .unset]) rfl ?_
  refine WP.iloadN (pc' := 8) at_7 rfl rfl ?_
  refine WP.bipush (pc' := 10) at_8 rfl (z := 8) rfl ?_
  refine WP.iushr (pc' := 11) at_10 rfl ?_
  refine WP.sipush (pc' := 14) at_11 rfl (z := 255) rfl ?_
  refine WP.iand (pc' := 15) at_14 rfl ?_
  generalize ht2 : (((x0.toUInt32 >>> ((8 : Int32) &&& 31).toUInt32).toInt32) &&& (255 : Int32)) = t2
  refine WP.istore (pc' := 17) at_15 rfl (Ls' := #[.val (.int x0), .val (.int x1), .val (.int x2), .val (.int x3), .val (.int x4), .val (.int t1), .val (.int t2), .unset, .unset, .unset, .unset, .unset, .unset, .unset, .unset, .unset, .unset, .unset, .unset, .unset, .unset, .unset, .unset, .unset, .unset]) rfl ?_
  refine WP.iloadN (pc' := 18) at_17 rfl rfl ?_
  refine WP.bipush (pc' := 20) at_18 rfl (z := 16) rfl ?_
  refine WP.iushr (pc' := 21) at_20 rfl ?_
  refine WP.sipush (pc' := 24) at_21 rfl (z := 255) rfl ?_
  refine WP.iand (pc' := 25) at_24 rfl ?_
  generalize ht3 : (((x0.toUInt32 >>> ((16 : Int32) &&& 31).toUInt32).toInt32) &&& (255 : Int32)) = t3
  refine WP.istore (pc' := 27) at_25 rfl (Ls' := #[.val (.int x0), .val (.int x1), .val (.int x2), .val (.int x3), .val (.int x4), .val (.int t1), .val (.int t2), .val (.int t3), .unset, .unset, .unset, .unset, .unset, .unset, .unset, .unset, .unset, .unset, .unset, .unset, .unset, .unset, .unset, .unset, .unset]) rfl ?_
  refine WP.iload (pc' := 29) at_27 rfl rfl ?_
  refine WP.sipush (pc' := 32) at_29 rfl (z := 255) rfl ?_
  refine WP.iand (pc' := 33) at_32 rfl ?_
  generalize ht4 : (x4 &&& (255 : Int32)) = t4
  refine WP.istore (pc' := 35) at_33 rfl (Ls' := #[.val (.int x0), .val (.int x1), .val (.int x2), .val (.int x3), .val (.int x4), .val (.int t1), .val (.int t2), .val (.int t3), .val (.int t4), .unset, .unset, .unset, .unset, .unset, .unset, .unset, .unset, .unset, .unset, .unset, .unset, .unset, .unset, .unset, .unset]) rfl ?_
  obtain ⟨N1, hN1, lN1⟩ := n_of t1
  obtain ⟨N2, hN2, lN2⟩ := n_of t2
  obtain ⟨N3, hN3, lN3⟩ := n_of t3
  obtain ⟨N4, hN4, lN4⟩ := n_of t4
  obtain ⟨M1, hM1, lM1⟩ := n_of x1
  obtain ⟨M2, hM2, lM2⟩ := n_of x2
  obtain ⟨M3, hM3, lM3⟩ := n_of x3
  refine WP.iload (pc' := 37) at_35 rfl rfl ?_
  refine WP.callSH (argsL := [(.int t1)]) (rest := []) (wd := 0) (cl' := 6) (sl' := 15) (pc' := 40) at_37 rfl (wd0 hw) (wd1 hw) (wd2 hw) (wd3 hw) (by decide) (hELw hw) Hd0 (m_name hw t1 h0 n0 Z0 O0 cs S_CS hcs N1 hN1 lN1) pd_23 rfl rfl rfl (Nat.le_of_eq rfl) (by decide) (by decide) rfl rfl (by decide) (by decide) ?_
  rintro v vm5 h5 ⟨s5, c5, rfl, K5, E5, Fv5, Fc5, B5⟩ Hd5 Cr5
  have O6 := O0.keep K5 all0
  have Z7 : n0 ≤ h5.size := Nat.le_trans Z0 K5.1
  have B5z : Ari Z h5 c5 .byte N1 (ng t1) := B5
  refine WP.castS (st' := [(.ref s5)]) rfl ?_
  refine WP.astore (pc' := 42) at_40 rfl rfl (Ls' := #[.val (.int x0), .val (.int x1), .val (.int x2), .val (.int x3), .val (.int x4), .val (.int t1), .val (.int t2), .val (.int t3), .val (.int t4), .val (.ref s5), .unset, .unset, .unset, .unset, .unset, .unset, .unset, .unset, .unset, .unset, .unset, .unset, .unset, .unset, .unset]) rfl ?_
  refine WP.iload (pc' := 44) at_42 rfl rfl ?_
  refine WP.callSH (argsL := [(.int t2)]) (rest := []) (wd := 0) (cl' := 12) (sl' := 30) (pc' := 47) at_44 rfl (wd0 hw) (wd1 hw) (wd2 hw) (wd3 hw) (by decide) (hELw hw) Hd5 (m_name hw t2 h5 n0 Z7 O6 cs S_CS hcs N2 hN2 lN2) pd_23 rfl rfl rfl (Nat.le_of_eq rfl) (by decide) (by decide) rfl rfl (by decide) (by decide) ?_
  rintro v vm8 h8 ⟨s8, c8, rfl, K8, E8, Fv8, Fc8, B8⟩ Hd8 Cr8
  have E9 := E5.keep K8
  have F10 := Fv5.keep K8 nin0
  have F11 := Fc5.keep K8 nin0
  have V12 := B5z.keep K8 nin0
  have O13 := O6.keep K8 all0
  have Z14 : n0 ≤ h8.size := Nat.le_trans Z7 K8.1
  have B8z : Ari Z h8 c8 .byte N2 (ng t2) := B8
  refine WP.castS (st' := [(.ref s8)]) rfl ?_
  refine WP.astore (pc' := 49) at_47 rfl rfl (Ls' := #[.val (.int x0), .val (.int x1), .val (.int x2), .val (.int x3), .val (.int x4), .val (.int t1), .val (.int t2), .val (.int t3), .val (.int t4), .val (.ref s5), .val (.ref s8), .unset, .unset, .unset, .unset, .unset, .unset, .unset, .unset, .unset, .unset, .unset, .unset, .unset, .unset]) rfl ?_
  refine WP.iload (pc' := 51) at_49 rfl rfl ?_
  refine WP.callSH (argsL := [(.int t3)]) (rest := []) (wd := 0) (cl' := 18) (sl' := 45) (pc' := 54) at_51 rfl (wd0 hw) (wd1 hw) (wd2 hw) (wd3 hw) (by decide) (hELw hw) Hd8 (m_name hw t3 h8 n0 Z14 O13 cs S_CS hcs N3 hN3 lN3) pd_23 rfl rfl rfl (Nat.le_of_eq rfl) (by decide) (by decide) rfl rfl (by decide) (by decide) ?_
  rintro v vm15 h15 ⟨s15, c15, rfl, K15, E15, Fv15, Fc15, B15⟩ Hd15 Cr15
  have E16 := E9.keep K15
  have F17 := F10.keep K15 nin0
  have F18 := F11.keep K15 nin0
  have V19 := V12.keep K15 nin0
  have E20 := E8.keep K15
  have F21 := Fv8.keep K15 nin0
  have F22 := Fc8.keep K15 nin0
  have V23 := B8z.keep K15 nin0
  have O24 := O13.keep K15 all0
  have Z25 : n0 ≤ h15.size := Nat.le_trans Z14 K15.1
  have B15z : Ari Z h15 c15 .byte N3 (ng t3) := B15
  refine WP.castS (st' := [(.ref s15)]) rfl ?_
  refine WP.astore (pc' := 56) at_54 rfl rfl (Ls' := #[.val (.int x0), .val (.int x1), .val (.int x2), .val (.int x3), .val (.int x4), .val (.int t1), .val (.int t2), .val (.int t3), .val (.int t4), .val (.ref s5), .val (.ref s8), .val (.ref s15), .unset, .unset, .unset, .unset, .unset, .unset, .unset, .unset, .unset, .unset, .unset, .unset, .unset]) rfl ?_
  refine WP.iload (pc' := 58) at_56 rfl rfl ?_
  refine WP.callSH (argsL := [(.int t4)]) (rest := []) (wd := 0) (cl' := 24) (sl' := 60) (pc' := 61) at_58 rfl (wd0 hw) (wd1 hw) (wd2 hw) (wd3 hw) (by decide) (hELw hw) Hd15 (m_name hw t4 h15 n0 Z25 O24 cs S_CS hcs N4 hN4 lN4) pd_23 rfl rfl rfl (Nat.le_of_eq rfl) (by decide) (by decide) rfl rfl (by decide) (by decide) ?_
  rintro v vm26 h26 ⟨s26, c26, rfl, K26, E26, Fv26, Fc26, B26⟩ Hd26 Cr26
  have E27 := E16.keep K26
  have F28 := F17.keep K26 nin0
  have F29 := F18.keep K26 nin0
  have V30 := V19.keep K26 nin0
  have E31 := E20.keep K26
  have F32 := F21.keep K26 nin0
  have F33 := F22.keep K26 nin0
  have V34 := V23.keep K26 nin0
  have E35 := E15.keep K26
  have F36 := Fv15.keep K26 nin0
  have F37 := Fc15.keep K26 nin0
  have V38 := B15z.keep K26 nin0
  have O39 := O24.keep K26 all0
  have Z40 : n0 ≤ h26.size := Nat.le_trans Z25 K26.1
  have B26z : Ari Z h26 c26 .byte N4 (ng t4) := B26
  refine WP.castS (st' := [(.ref s26)]) rfl ?_
  refine WP.astore (pc' := 63) at_61 rfl rfl (Ls' := #[.val (.int x0), .val (.int x1), .val (.int x2), .val (.int x3), .val (.int x4), .val (.int t1), .val (.int t2), .val (.int t3), .val (.int t4), .val (.ref s5), .val (.ref s8), .val (.ref s15), .val (.ref s26), .unset, .unset, .unset, .unset, .unset, .unset, .unset, .unset, .unset, .unset, .unset, .unset]) rfl ?_
  refine WP.iloadN (pc' := 64) at_63 rfl rfl ?_
  refine WP.callSH (argsL := [(.int x1)]) (rest := []) (wd := 0) (cl' := 30) (sl' := 75) (pc' := 67) at_64 rfl (wd32 hw) (wd33 hw) (wd2 hw) (wd34 hw) (by decide) (hELw hw) Hd26 (m_value hw x1 h26 n0 Z40 O39 cs S_CS hcs M1 hM1 lM1) pd_23 rfl rfl rfl (Nat.le_of_eq rfl) (by decide) (by decide) rfl rfl (by decide) (by decide) ?_
  rintro v vm41 h41 ⟨s41, c41, gv41, rfl, K41, Qv41, E41, Fv41, Fc41, B41⟩ Hd41 Cr41
  have E42 := E27.keep K41
  have F43 := F28.keep K41 nin0
  have F44 := F29.keep K41 nin0
  have V45 := V30.keep K41 nin0
  have E46 := E31.keep K41
  have F47 := F32.keep K41 nin0
  have F48 := F33.keep K41 nin0
  have V49 := V34.keep K41 nin0
  have E50 := E35.keep K41
  have F51 := F36.keep K41 nin0
  have F52 := F37.keep K41 nin0
  have V53 := V38.keep K41 nin0
  have E54 := E26.keep K41
  have F55 := Fv26.keep K41 nin0
  have F56 := Fc26.keep K41 nin0
  have V57 := B26z.keep K41 nin0
  have O58 := O39.keep K41 all0
  have Z59 : n0 ≤ h41.size := Nat.le_trans Z40 K41.1
  have B41z : Ari Z h41 c41 .byte M1 gv41 := B41
  refine WP.castS (st' := [(.ref s41)]) rfl ?_
  refine WP.astore (pc' := 69) at_67 rfl rfl (Ls' := #[.val (.int x0), .val (.int x1), .val (.int x2), .val (.int x3), .val (.int x4), .val (.int t1), .val (.int t2), .val (.int t3), .val (.int t4), .val (.ref s5), .val (.ref s8), .val (.ref s15), .val (.ref s26), .val (.ref s41), .unset, .unset, .unset, .unset, .unset, .unset, .unset, .unset, .unset, .unset, .unset]) rfl ?_
  refine WP.iloadN (pc' := 70) at_69 rfl rfl ?_
  refine WP.callSH (argsL := [(.int x2)]) (rest := []) (wd := 0) (cl' := 36) (sl' := 90) (pc' := 73) at_70 rfl (wd32 hw) (wd33 hw) (wd2 hw) (wd34 hw) (by decide) (hELw hw) Hd41 (m_value hw x2 h41 n0 Z59 O58 cs S_CS hcs M2 hM2 lM2) pd_23 rfl rfl rfl (Nat.le_of_eq rfl) (by decide) (by decide) rfl rfl (by decide) (by decide) ?_
  rintro v vm60 h60 ⟨s60, c60, gv60, rfl, K60, Qv60, E60, Fv60, Fc60, B60⟩ Hd60 Cr60
  have E61 := E42.keep K60
  have F62 := F43.keep K60 nin0
  have F63 := F44.keep K60 nin0
  have V64 := V45.keep K60 nin0
  have E65 := E46.keep K60
  have F66 := F47.keep K60 nin0
  have F67 := F48.keep K60 nin0
  have V68 := V49.keep K60 nin0
  have E69 := E50.keep K60
  have F70 := F51.keep K60 nin0
  have F71 := F52.keep K60 nin0
  have V72 := V53.keep K60 nin0
  have E73 := E54.keep K60
  have F74 := F55.keep K60 nin0
  have F75 := F56.keep K60 nin0
  have V76 := V57.keep K60 nin0
  have E77 := E41.keep K60
  have F78 := Fv41.keep K60 nin0
  have F79 := Fc41.keep K60 nin0
  have V80 := B41z.keep K60 nin0
  have O81 := O58.keep K60 all0
  have Z82 : n0 ≤ h60.size := Nat.le_trans Z59 K60.1
  have B60z : Ari Z h60 c60 .byte M2 gv60 := B60
  refine WP.castS (st' := [(.ref s60)]) rfl ?_
  refine WP.astore (pc' := 75) at_73 rfl rfl (Ls' := #[.val (.int x0), .val (.int x1), .val (.int x2), .val (.int x3), .val (.int x4), .val (.int t1), .val (.int t2), .val (.int t3), .val (.int t4), .val (.ref s5), .val (.ref s8), .val (.ref s15), .val (.ref s26), .val (.ref s41), .val (.ref s60), .unset, .unset, .unset, .unset, .unset, .unset, .unset, .unset, .unset, .unset]) rfl ?_
  refine WP.iloadN (pc' := 76) at_75 rfl rfl ?_
  refine WP.callSH (argsL := [(.int x3)]) (rest := []) (wd := 0) (cl' := 42) (sl' := 105) (pc' := 79) at_76 rfl (wd32 hw) (wd33 hw) (wd2 hw) (wd34 hw) (by decide) (hELw hw) Hd60 (m_value hw x3 h60 n0 Z82 O81 cs S_CS hcs M3 hM3 lM3) pd_23 rfl rfl rfl (Nat.le_of_eq rfl) (by decide) (by decide) rfl rfl (by decide) (by decide) ?_
  rintro v vm83 h83 ⟨s83, c83, gv83, rfl, K83, Qv83, E83, Fv83, Fc83, B83⟩ Hd83 Cr83
  have E84 := E61.keep K83
  have F85 := F62.keep K83 nin0
  have F86 := F63.keep K83 nin0
  have V87 := V64.keep K83 nin0
  have E88 := E65.keep K83
  have F89 := F66.keep K83 nin0
  have F90 := F67.keep K83 nin0
  have V91 := V68.keep K83 nin0
  have E92 := E69.keep K83
  have F93 := F70.keep K83 nin0
  have F94 := F71.keep K83 nin0
  have V95 := V72.keep K83 nin0
  have E96 := E73.keep K83
  have F97 := F74.keep K83 nin0
  have F98 := F75.keep K83 nin0
  have V99 := V76.keep K83 nin0
  have E100 := E77.keep K83
  have F101 := F78.keep K83 nin0
  have F102 := F79.keep K83 nin0
  have V103 := V80.keep K83 nin0
  have E104 := E60.keep K83
  have F105 := Fv60.keep K83 nin0
  have F106 := Fc60.keep K83 nin0
  have V107 := B60z.keep K83 nin0
  have O108 := O81.keep K83 all0
  have Z109 : n0 ≤ h83.size := Nat.le_trans Z82 K83.1
  have B83z : Ari Z h83 c83 .byte M3 gv83 := B83
  refine WP.castS (st' := [(.ref s83)]) rfl ?_
  refine WP.astore (pc' := 81) at_79 rfl rfl (Ls' := #[.val (.int x0), .val (.int x1), .val (.int x2), .val (.int x3), .val (.int x4), .val (.int t1), .val (.int t2), .val (.int t3), .val (.int t4), .val (.ref s5), .val (.ref s8), .val (.ref s15), .val (.ref s26), .val (.ref s41), .val (.ref s60), .val (.ref s83), .unset, .unset, .unset, .unset, .unset, .unset, .unset, .unset, .unset]) rfl ?_
  have sn0 := Hd83.sn
  refine WP.newO (cl' := 43) (sl' := 123) (pc' := 84) at_81 rfl (wd60 hw) (wd61 hw) (wd62 hw) rfl rfl (by decide) (by decide) ?_
  intro h110 b110 g110 E110 A110 D110
  have ge111 : n0 ≤ b110 := by rw [g110]; exact Z109
  have ne112 : s5 ≠ b110 := by rw [g110]; exact Nat.ne_of_lt E84.lt
  have ne113 : c5 ≠ b110 := by rw [g110]; exact Nat.ne_of_lt V87.lt
  have ne114 : s8 ≠ b110 := by rw [g110]; exact Nat.ne_of_lt E88.lt
  have ne115 : c8 ≠ b110 := by rw [g110]; exact Nat.ne_of_lt V91.lt
  have ne116 : s15 ≠ b110 := by rw [g110]; exact Nat.ne_of_lt E92.lt
  have ne117 : c15 ≠ b110 := by rw [g110]; exact Nat.ne_of_lt V95.lt
  have ne118 : s26 ≠ b110 := by rw [g110]; exact Nat.ne_of_lt E96.lt
  have ne119 : c26 ≠ b110 := by rw [g110]; exact Nat.ne_of_lt V99.lt
  have ne120 : s41 ≠ b110 := by rw [g110]; exact Nat.ne_of_lt E100.lt
  have ne121 : c41 ≠ b110 := by rw [g110]; exact Nat.ne_of_lt V103.lt
  have ne122 : s60 ≠ b110 := by rw [g110]; exact Nat.ne_of_lt E104.lt
  have ne123 : c60 ≠ b110 := by rw [g110]; exact Nat.ne_of_lt V107.lt
  have ne124 : s83 ≠ b110 := by rw [g110]; exact Nat.ne_of_lt E83.lt
  have ne125 : c83 ≠ b110 := by rw [g110]; exact Nat.ne_of_lt B83z.lt
  have E126 := E84.ext E110
  have F127 := F85.ext E110
  have F128 := F86.ext E110
  have V129 := V87.ext E110
  have E130 := E88.ext E110
  have F131 := F89.ext E110
  have F132 := F90.ext E110
  have V133 := V91.ext E110
  have E134 := E92.ext E110
  have F135 := F93.ext E110
  have F136 := F94.ext E110
  have V137 := V95.ext E110
  have E138 := E96.ext E110
  have F139 := F97.ext E110
  have F140 := F98.ext E110
  have V141 := V99.ext E110
  have E142 := E100.ext E110
  have F143 := F101.ext E110
  have F144 := F102.ext E110
  have V145 := V103.ext E110
  have E146 := E104.ext E110
  have F147 := F105.ext E110
  have F148 := F106.ext E110
  have V149 := V107.ext E110
  have E150 := E83.ext E110
  have F151 := Fv83.ext E110
  have F152 := Fc83.ext E110
  have V153 := B83z.ext E110
  have O154 := O108.ext E110
  have sn155 := sn0.grow E110.1
  have Z156 : n0 ≤ h110.size := Nat.le_trans Z109 E110.1
  have F157 : Fld Z h110 b110 "com/example/vipool/vipool/http/HttpHead" "raw" "[B" .null := D110 (Or.inl (wd68 hw)) (ty := (.array .byte)) (by decide)
  have F158 : Fld Z h110 b110 "com/example/vipool/vipool/http/HttpHead" "spans" "[I" .null := D110 (Or.inl (wd71 hw)) (ty := (.array .int)) (by decide)
  have F159 : Fld Z h110 b110 "com/example/vipool/vipool/http/HttpHead" "secondEnd" "I" (.int (0 : Int32)) := D110 (Or.inl (wd78 hw)) (ty := .int) (by decide)
  have F160 : Fld Z h110 b110 "com/example/vipool/vipool/http/HttpHead" "secondStart" "I" (.int (0 : Int32)) := D110 (Or.inl (wd80 hw)) (ty := .int) (by decide)
  have F161 : Fld Z h110 b110 "com/example/vipool/vipool/http/HttpHead" "request" "Z" (.int (0 : Int32)) := D110 (Or.inl (wd82 hw)) (ty := .boolean) (by decide)
  have F162 : Fld Z h110 b110 "com/example/vipool/vipool/http/HttpHead" "fields" "I" (.int (0 : Int32)) := D110 (Or.inl (wd84 hw)) (ty := .int) (by decide)
  have F163 : Fld Z h110 b110 "com/example/vipool/vipool/http/HttpHead" "used" "I" (.int (0 : Int32)) := D110 (Or.inl (wd91 hw)) (ty := .int) (by decide)
  have F164 : Fld Z h110 b110 "com/example/vipool/vipool/http/HttpHead" "firstEnd" "I" (.int (0 : Int32)) := D110 (Or.inl (wd155 hw)) (ty := .int) (by decide)
  refine WP.dup (pc' := 85) at_84 rfl rfl ?_
  refine WP.callI (a := b110) (argsL := []) (rest := [(.ref b110)]) (wd := 1) (cl' := 45) (sl' := 667) (pc' := 88) at_85 rfl rfl (wd63 hw) (wd64 hw) (wd62 hw) (wd65 hw) (by decide) (m_ini hw b110 h110 n0 Z156 O154 ge111 A110 F157 F158 F163 F162 F159 F160 F161) pd_24 rfl rfl rfl (Nat.le_of_eq rfl) (by decide) (by decide) rfl rfl (by decide) (by decide) ?_
  rintro v h165 ⟨rfl, rw165, sp165, K165, zr165, zs165, R165⟩
  have ne166 : s5 ≠ rw165 := Nat.ne_of_lt (Nat.lt_of_lt_of_le E126.lt zr165)
  have ne167 : c5 ≠ rw165 := Nat.ne_of_lt (Nat.lt_of_lt_of_le V129.lt zr165)
  have ne168 : s8 ≠ rw165 := Nat.ne_of_lt (Nat.lt_of_lt_of_le E130.lt zr165)
  have ne169 : c8 ≠ rw165 := Nat.ne_of_lt (Nat.lt_of_lt_of_le V133.lt zr165)
  have ne170 : s15 ≠ rw165 := Nat.ne_of_lt (Nat.lt_of_lt_of_le E134.lt zr165)
  have ne171 : c15 ≠ rw165 := Nat.ne_of_lt (Nat.lt_of_lt_of_le V137.lt zr165)
  have ne172 : s26 ≠ rw165 := Nat.ne_of_lt (Nat.lt_of_lt_of_le E138.lt zr165)
  have ne173 : c26 ≠ rw165 := Nat.ne_of_lt (Nat.lt_of_lt_of_le V141.lt zr165)
  have ne174 : s41 ≠ rw165 := Nat.ne_of_lt (Nat.lt_of_lt_of_le E142.lt zr165)
  have ne175 : c41 ≠ rw165 := Nat.ne_of_lt (Nat.lt_of_lt_of_le V145.lt zr165)
  have ne176 : s60 ≠ rw165 := Nat.ne_of_lt (Nat.lt_of_lt_of_le E146.lt zr165)
  have ne177 : c60 ≠ rw165 := Nat.ne_of_lt (Nat.lt_of_lt_of_le V149.lt zr165)
  have ne178 : s83 ≠ rw165 := Nat.ne_of_lt (Nat.lt_of_lt_of_le E150.lt zr165)
  have ne179 : c83 ≠ rw165 := Nat.ne_of_lt (Nat.lt_of_lt_of_le V153.lt zr165)
  have ne180 : b110 ≠ rw165 := Nat.ne_of_lt (Nat.lt_of_lt_of_le A110.lt zr165)
  have ne181 : s5 ≠ sp165 := Nat.ne_of_lt (Nat.lt_of_lt_of_le E126.lt zs165)
  have ne182 : c5 ≠ sp165 := Nat.ne_of_lt (Nat.lt_of_lt_of_le V129.lt zs165)
  have ne183 : s8 ≠ sp165 := Nat.ne_of_lt (Nat.lt_of_lt_of_le E130.lt zs165)
  have ne184 : c8 ≠ sp165 := Nat.ne_of_lt (Nat.lt_of_lt_of_le V133.lt zs165)
  have ne185 : s15 ≠ sp165 := Nat.ne_of_lt (Nat.lt_of_lt_of_le E134.lt zs165)
  have ne186 : c15 ≠ sp165 := Nat.ne_of_lt (Nat.lt_of_lt_of_le V137.lt zs165)
  have ne187 : s26 ≠ sp165 := Nat.ne_of_lt (Nat.lt_of_lt_of_le E138.lt zs165)
  have ne188 : c26 ≠ sp165 := Nat.ne_of_lt (Nat.lt_of_lt_of_le V141.lt zs165)
  have ne189 : s41 ≠ sp165 := Nat.ne_of_lt (Nat.lt_of_lt_of_le E142.lt zs165)
  have ne190 : c41 ≠ sp165 := Nat.ne_of_lt (Nat.lt_of_lt_of_le V145.lt zs165)
  have ne191 : s60 ≠ sp165 := Nat.ne_of_lt (Nat.lt_of_lt_of_le E146.lt zs165)
  have ne192 : c60 ≠ sp165 := Nat.ne_of_lt (Nat.lt_of_lt_of_le V149.lt zs165)
  have ne193 : s83 ≠ sp165 := Nat.ne_of_lt (Nat.lt_of_lt_of_le E150.lt zs165)
  have ne194 : c83 ≠ sp165 := Nat.ne_of_lt (Nat.lt_of_lt_of_le V153.lt zs165)
  have ne195 : b110 ≠ sp165 := Nat.ne_of_lt (Nat.lt_of_lt_of_le A110.lt zs165)
  have E196 := E126.keep K165
  have F197 := F127.keep K165 (ninS ne112 nin0)
  have F198 := F128.keep K165 (ninS ne112 nin0)
  have V199 := V129.keep K165 (ninS ne113 nin0)
  have E200 := E130.keep K165
  have F201 := F131.keep K165 (ninS ne114 nin0)
  have F202 := F132.keep K165 (ninS ne114 nin0)
  have V203 := V133.keep K165 (ninS ne115 nin0)
  have E204 := E134.keep K165
  have F205 := F135.keep K165 (ninS ne116 nin0)
  have F206 := F136.keep K165 (ninS ne116 nin0)
  have V207 := V137.keep K165 (ninS ne117 nin0)
  have E208 := E138.keep K165
  have F209 := F139.keep K165 (ninS ne118 nin0)
  have F210 := F140.keep K165 (ninS ne118 nin0)
  have V211 := V141.keep K165 (ninS ne119 nin0)
  have E212 := E142.keep K165
  have F213 := F143.keep K165 (ninS ne120 nin0)
  have F214 := F144.keep K165 (ninS ne120 nin0)
  have V215 := V145.keep K165 (ninS ne121 nin0)
  have E216 := E146.keep K165
  have F217 := F147.keep K165 (ninS ne122 nin0)
  have F218 := F148.keep K165 (ninS ne122 nin0)
  have V219 := V149.keep K165 (ninS ne123 nin0)
  have E220 := E150.keep K165
  have F221 := F151.keep K165 (ninS ne124 nin0)
  have F222 := F152.keep K165 (ninS ne124 nin0)
  have V223 := V153.keep K165 (ninS ne125 nin0)
  have E224 := A110.keep K165
  have O225 := O154.keep K165 (allS ge111 all0)
  have sn226 := sn155.grow K165.1
  have Z227 : n0 ≤ h165.size := Nat.le_trans Z156 K165.1
  refine WP.castS (st' := [(.ref b110)]) rfl ?_
  refine WP.astore (pc' := 90) at_88 rfl rfl (Ls' := #[.val (.int x0), .val (.int x1), .val (.int x2), .val (.int x3), .val (.int x4), .val (.int t1), .val (.int t2), .val (.int t3), .val (.int t4), .val (.ref s5), .val (.ref s8), .val (.ref s15), .val (.ref s26), .val (.ref s41), .val (.ref s60), .val (.ref s83), .val (.ref b110), .unset, .unset, .unset, .unset, .unset, .unset, .unset, .unset]) rfl ?_
  refine WP.aload (pc' := 92) at_90 rfl rfl rfl ?_
  refine WP.callV (a := b110) (K := "com/example/vipool/vipool/http/HttpHead") (argsL := []) (rest := []) (wd := 0) (cl' := 45) (sl' := 667) (pc' := 95) at_92 rfl (wd72 hw) (wd73 hw) (nfS (wd75 hw) rfl) (wd75 hw) (wd74 hw) (wd62 hw) (wd76 hw) (by decide) R165.2.1 (m_size hw b110 h165 n0 rw165 sp165 (0 : Int32) (0 : Int32) (fun _ => 0) (fun _ => 0) R165 0 rfl (by omega)) pd_16 rfl rfl rfl (Nat.le_of_eq rfl) (by decide) (by decide) rfl rfl (by decide) (by decide) ?_
  rintro v hh228 ⟨rfl, he228⟩
  rw [he228]
  refine WP.castS (st' := [(.int (sz (fun _ => 0) 0))]) rfl ?_
  generalize ht229 : (sz (fun _ => 0) 0) = t229
  refine WP.istore (pc' := 97) at_95 rfl (Ls' := #[.val (.int x0), .val (.int x1), .val (.int x2), .val (.int x3), .val (.int x4), .val (.int t1), .val (.int t2), .val (.int t3), .val (.int t4), .val (.ref s5), .val (.ref s8), .val (.ref s15), .val (.ref s26), .val (.ref s41), .val (.ref s60), .val (.ref s83), .val (.ref b110), .val (.int t229), .unset, .unset, .unset, .unset, .unset, .unset, .unset]) rfl ?_
  refine WP.aload (pc' := 99) at_97 rfl rfl rfl ?_
  refine WP.aload (pc' := 101) at_99 rfl rfl rfl ?_
  refine WP.aload (pc' := 103) at_101 rfl rfl rfl ?_
  refine WP.callV (a := b110) (K := "com/example/vipool/vipool/http/HttpHead") (argsL := [(.ref s5), (.ref s41)]) (rest := []) (wd := 0) (cl' := 45) (sl' := 667) (pc' := 106) at_103 rfl (wd85 hw) (wd86 hw) (nfS (wd88 hw) rfl) (wd88 hw) (wd87 hw) (wd62 hw) (wd89 hw) (by decide) R165.2.1 (m_add hw b110 s5 s41 h165 n0 Z227 O225 cs S_CS hcs fv hfv S_FM rw165 sp165 (0 : Int32) (0 : Int32) (fun _ => 0) (fun _ => 0) R165 c5 N1 (ng t1) E196 F197 F198 V199 c41 M1 gv41 E212 F213 F214 V215 ne112 ne166 ne181 ne113 ne167 ne182 ne120 ne174 ne189 ne121 ne175 ne190 (0) 0 rfl (by omega) (fun i _ => cv_cv _) (fun i _ => Qv41 i) rfl (by omega)) pd_25 rfl rfl rfl (Nat.le_of_eq rfl) (by decide) (by decide) rfl rfl (by decide) (by decide) ?_
  rintro v h230 ⟨rfl, K230, R230⟩
  have E231 := E196.keep K230
  have F232 := F197.keep K230 (ninS ne112 (ninS ne166 (ninS ne181 nin0)))
  have F233 := F198.keep K230 (ninS ne112 (ninS ne166 (ninS ne181 nin0)))
  have V234 := V199.keep K230 (ninS ne113 (ninS ne167 (ninS ne182 nin0)))
  have E235 := E200.keep K230
  have F236 := F201.keep K230 (ninS ne114 (ninS ne168 (ninS ne183 nin0)))
  have F237 := F202.keep K230 (ninS ne114 (ninS ne168 (ninS ne183 nin0)))
  have V238 := V203.keep K230 (ninS ne115 (ninS ne169 (ninS ne184 nin0)))
  have E239 := E204.keep K230
  have F240 := F205.keep K230 (ninS ne116 (ninS ne170 (ninS ne185 nin0)))
  have F241 := F206.keep K230 (ninS ne116 (ninS ne170 (ninS ne185 nin0)))
  have V242 := V207.keep K230 (ninS ne117 (ninS ne171 (ninS ne186 nin0)))
  have E243 := E208.keep K230
  have F244 := F209.keep K230 (ninS ne118 (ninS ne172 (ninS ne187 nin0)))
  have F245 := F210.keep K230 (ninS ne118 (ninS ne172 (ninS ne187 nin0)))
  have V246 := V211.keep K230 (ninS ne119 (ninS ne173 (ninS ne188 nin0)))
  have E247 := E212.keep K230
  have F248 := F213.keep K230 (ninS ne120 (ninS ne174 (ninS ne189 nin0)))
  have F249 := F214.keep K230 (ninS ne120 (ninS ne174 (ninS ne189 nin0)))
  have V250 := V215.keep K230 (ninS ne121 (ninS ne175 (ninS ne190 nin0)))
  have E251 := E216.keep K230
  have F252 := F217.keep K230 (ninS ne122 (ninS ne176 (ninS ne191 nin0)))
  have F253 := F218.keep K230 (ninS ne122 (ninS ne176 (ninS ne191 nin0)))
  have V254 := V219.keep K230 (ninS ne123 (ninS ne177 (ninS ne192 nin0)))
  have E255 := E220.keep K230
  have F256 := F221.keep K230 (ninS ne124 (ninS ne178 (ninS ne193 nin0)))
  have F257 := F222.keep K230 (ninS ne124 (ninS ne178 (ninS ne193 nin0)))
  have V258 := V223.keep K230 (ninS ne125 (ninS ne179 (ninS ne194 nin0)))
  have E259 := E224.keep K230
  have O260 := O225.keep K230 (allS ge111 (allS R165.1.2.1 (allS R165.1.2.2.1 all0)))
  have sn261 := sn226.grow K230.1
  have Z262 : n0 ≤ h230.size := Nat.le_trans Z227 K230.1
  refine WP.castS (st' := []) rfl ?_
  refine WP.aload (pc' := 108) at_106 rfl rfl rfl ?_
  refine WP.aload (pc' := 110) at_108 rfl rfl rfl ?_
  refine WP.aload (pc' := 112) at_110 rfl rfl rfl ?_
  refine WP.callV (a := b110) (K := "com/example/vipool/vipool/http/HttpHead") (argsL := [(.ref s8), (.ref s60)]) (rest := []) (wd := 0) (cl' := 45) (sl' := 667) (pc' := 115) at_112 rfl (wd85 hw) (wd86 hw) (nfS (wd88 hw) rfl) (wd88 hw) (wd87 hw) (wd62 hw) (wd89 hw) (by decide) R230.2.1 (m_add hw b110 s8 s60 h230 n0 Z262 O260 cs S_CS hcs fv hfv S_FM rw165 sp165 (((0 : Int32) + (N1 : Nat).toInt32) + (M1 : Nat).toInt32) ((0 : Int32) + 1) (lay (lay (fun _ => 0) (0) N1 (ng t1)) (0 + N1) M1 gv41) (sp4 (fun _ => 0) 0 (0 : Int32) ((0 : Int32) + (N1 : Nat).toInt32) ((0 : Int32) + (N1 : Nat).toInt32) (((0 : Int32) + (N1 : Nat).toInt32) + (M1 : Nat).toInt32)) R230 c8 N2 (ng t2) E235 F236 F237 V238 c60 M2 gv60 E251 F252 F253 V254 ne114 ne168 ne183 ne115 ne169 ne184 ne122 ne176 ne191 ne123 ne177 ne192 (0 + N1 + M1) 1 (adds (adds rfl (natI (by omega)) (by omega)) (natI (by omega)) (by omega)) (by omega) (fun i _ => cv_cv _) (fun i _ => Qv60 i) rfl (by omega)) pd_25 rfl rfl rfl (Nat.le_of_eq rfl) (by decide) (by decide) rfl rfl (by decide) (by decide) ?_
  rintro v h263 ⟨rfl, K263, R263⟩
  have E264 := E231.keep K263
  have F265 := F232.keep K263 (ninS ne112 (ninS ne166 (ninS ne181 nin0)))
  have F266 := F233.keep K263 (ninS ne112 (ninS ne166 (ninS ne181 nin0)))
  have V267 := V234.keep K263 (ninS ne113 (ninS ne167 (ninS ne182 nin0)))
  have E268 := E235.keep K263
  have F269 := F236.keep K263 (ninS ne114 (ninS ne168 (ninS ne183 nin0)))
  have F270 := F237.keep K263 (ninS ne114 (ninS ne168 (ninS ne183 nin0)))
  have V271 := V238.keep K263 (ninS ne115 (ninS ne169 (ninS ne184 nin0)))
  have E272 := E239.keep K263
  have F273 := F240.keep K263 (ninS ne116 (ninS ne170 (ninS ne185 nin0)))
  have F274 := F241.keep K263 (ninS ne116 (ninS ne170 (ninS ne185 nin0)))
  have V275 := V242.keep K263 (ninS ne117 (ninS ne171 (ninS ne186 nin0)))
  have E276 := E243.keep K263
  have F277 := F244.keep K263 (ninS ne118 (ninS ne172 (ninS ne187 nin0)))
  have F278 := F245.keep K263 (ninS ne118 (ninS ne172 (ninS ne187 nin0)))
  have V279 := V246.keep K263 (ninS ne119 (ninS ne173 (ninS ne188 nin0)))
  have E280 := E247.keep K263
  have F281 := F248.keep K263 (ninS ne120 (ninS ne174 (ninS ne189 nin0)))
  have F282 := F249.keep K263 (ninS ne120 (ninS ne174 (ninS ne189 nin0)))
  have V283 := V250.keep K263 (ninS ne121 (ninS ne175 (ninS ne190 nin0)))
  have E284 := E251.keep K263
  have F285 := F252.keep K263 (ninS ne122 (ninS ne176 (ninS ne191 nin0)))
  have F286 := F253.keep K263 (ninS ne122 (ninS ne176 (ninS ne191 nin0)))
  have V287 := V254.keep K263 (ninS ne123 (ninS ne177 (ninS ne192 nin0)))
  have E288 := E255.keep K263
  have F289 := F256.keep K263 (ninS ne124 (ninS ne178 (ninS ne193 nin0)))
  have F290 := F257.keep K263 (ninS ne124 (ninS ne178 (ninS ne193 nin0)))
  have V291 := V258.keep K263 (ninS ne125 (ninS ne179 (ninS ne194 nin0)))
  have E292 := E259.keep K263
  have O293 := O260.keep K263 (allS ge111 (allS R165.1.2.1 (allS R165.1.2.2.1 all0)))
  have sn294 := sn261.grow K263.1
  have Z295 : n0 ≤ h263.size := Nat.le_trans Z262 K263.1
  refine WP.castS (st' := []) rfl ?_
  refine WP.aload (pc' := 117) at_115 rfl rfl rfl ?_
  refine WP.aload (pc' := 119) at_117 rfl rfl rfl ?_
  refine WP.aload (pc' := 121) at_119 rfl rfl rfl ?_
  refine WP.callV (a := b110) (K := "com/example/vipool/vipool/http/HttpHead") (argsL := [(.ref s15), (.ref s83)]) (rest := []) (wd := 0) (cl' := 45) (sl' := 667) (pc' := 124) at_121 rfl (wd85 hw) (wd86 hw) (nfS (wd88 hw) rfl) (wd88 hw) (wd87 hw) (wd62 hw) (wd89 hw) (by decide) R263.2.1 (m_add hw b110 s15 s83 h263 n0 Z295 O293 cs S_CS hcs fv hfv S_FM rw165 sp165 (((((0 : Int32) + (N1 : Nat).toInt32) + (M1 : Nat).toInt32) + (N2 : Nat).toInt32) + (M2 : Nat).toInt32) (((0 : Int32) + 1) + 1) (lay (lay (lay (lay (fun _ => 0) (0) N1 (ng t1)) (0 + N1) M1 gv41) (0 + N1 + M1) N2 (ng t2)) (0 + N1 + M1 + N2) M2 gv60) (sp4 (sp4 (fun _ => 0) 0 (0 : Int32) ((0 : Int32) + (N1 : Nat).toInt32) ((0 : Int32) + (N1 : Nat).toInt32) (((0 : Int32) + (N1 : Nat).toInt32) + (M1 : Nat).toInt32)) 1 (((0 : Int32) + (N1 : Nat).toInt32) + (M1 : Nat).toInt32) ((((0 : Int32) + (N1 : Nat).toInt32) + (M1 : Nat).toInt32) + (N2 : Nat).toInt32) ((((0 : Int32) + (N1 : Nat).toInt32) + (M1 : Nat).toInt32) + (N2 : Nat).toInt32) (((((0 : Int32) + (N1 : Nat).toInt32) + (M1 : Nat).toInt32) + (N2 : Nat).toInt32) + (M2 : Nat).toInt32)) R263 c15 N3 (ng t3) E272 F273 F274 V275 c83 M3 gv83 E288 F289 F290 V291 ne116 ne170 ne185 ne117 ne171 ne186 ne124 ne178 ne193 ne125 ne179 ne194 (0 + N1 + M1 + N2 + M2) 2 (adds (adds (adds (adds rfl (natI (by omega)) (by omega)) (natI (by omega)) (by omega)) (natI (by omega)) (by omega)) (natI (by omega)) (by omega)) (by omega) (fun i _ => cv_cv _) (fun i _ => Qv83 i) rfl (by omega)) pd_25 rfl rfl rfl (Nat.le_of_eq rfl) (by decide) (by decide) rfl rfl (by decide) (by decide) ?_
  rintro v h296 ⟨rfl, K296, R296⟩
  have E297 := E264.keep K296
  have F298 := F265.keep K296 (ninS ne112 (ninS ne166 (ninS ne181 nin0)))
  have F299 := F266.keep K296 (ninS ne112 (ninS ne166 (ninS ne181 nin0)))
  have V300 := V267.keep K296 (ninS ne113 (ninS ne167 (ninS ne182 nin0)))
  have E301 := E268.keep K296
  have F302 := F269.keep K296 (ninS ne114 (ninS ne168 (ninS ne183 nin0)))
  have F303 := F270.keep K296 (ninS ne114 (ninS ne168 (ninS ne183 nin0)))
  have V304 := V271.keep K296 (ninS ne115 (ninS ne169 (ninS ne184 nin0)))
  have E305 := E272.keep K296
  have F306 := F273.keep K296 (ninS ne116 (ninS ne170 (ninS ne185 nin0)))
  have F307 := F274.keep K296 (ninS ne116 (ninS ne170 (ninS ne185 nin0)))
  have V308 := V275.keep K296 (ninS ne117 (ninS ne171 (ninS ne186 nin0)))
  have E309 := E276.keep K296
  have F310 := F277.keep K296 (ninS ne118 (ninS ne172 (ninS ne187 nin0)))
  have F311 := F278.keep K296 (ninS ne118 (ninS ne172 (ninS ne187 nin0)))
  have V312 := V279.keep K296 (ninS ne119 (ninS ne173 (ninS ne188 nin0)))
  have E313 := E280.keep K296
  have F314 := F281.keep K296 (ninS ne120 (ninS ne174 (ninS ne189 nin0)))
  have F315 := F282.keep K296 (ninS ne120 (ninS ne174 (ninS ne189 nin0)))
  have V316 := V283.keep K296 (ninS ne121 (ninS ne175 (ninS ne190 nin0)))
  have E317 := E284.keep K296
  have F318 := F285.keep K296 (ninS ne122 (ninS ne176 (ninS ne191 nin0)))
  have F319 := F286.keep K296 (ninS ne122 (ninS ne176 (ninS ne191 nin0)))
  have V320 := V287.keep K296 (ninS ne123 (ninS ne177 (ninS ne192 nin0)))
  have E321 := E288.keep K296
  have F322 := F289.keep K296 (ninS ne124 (ninS ne178 (ninS ne193 nin0)))
  have F323 := F290.keep K296 (ninS ne124 (ninS ne178 (ninS ne193 nin0)))
  have V324 := V291.keep K296 (ninS ne125 (ninS ne179 (ninS ne194 nin0)))
  have E325 := E292.keep K296
  have O326 := O293.keep K296 (allS ge111 (allS R165.1.2.1 (allS R165.1.2.2.1 all0)))
  have sn327 := sn294.grow K296.1
  have Z328 : n0 ≤ h296.size := Nat.le_trans Z295 K296.1
  refine WP.castS (st' := []) rfl ?_
  refine WP.aload (pc' := 126) at_124 rfl rfl rfl ?_
  refine WP.callV (a := b110) (K := "com/example/vipool/vipool/http/HttpHead") (argsL := []) (rest := []) (wd := 0) (cl' := 45) (sl' := 667) (pc' := 129) at_126 rfl (wd72 hw) (wd73 hw) (nfS (wd75 hw) rfl) (wd75 hw) (wd74 hw) (wd62 hw) (wd76 hw) (by decide) R296.2.1 (m_size hw b110 h296 n0 rw165 sp165 (((((((0 : Int32) + (N1 : Nat).toInt32) + (M1 : Nat).toInt32) + (N2 : Nat).toInt32) + (M2 : Nat).toInt32) + (N3 : Nat).toInt32) + (M3 : Nat).toInt32) ((((0 : Int32) + 1) + 1) + 1) (lay (lay (lay (lay (lay (lay (fun _ => 0) (0) N1 (ng t1)) (0 + N1) M1 gv41) (0 + N1 + M1) N2 (ng t2)) (0 + N1 + M1 + N2) M2 gv60) (0 + N1 + M1 + N2 + M2) N3 (ng t3)) (0 + N1 + M1 + N2 + M2 + N3) M3 gv83) (sp4 (sp4 (sp4 (fun _ => 0) 0 (0 : Int32) ((0 : Int32) + (N1 : Nat).toInt32) ((0 : Int32) + (N1 : Nat).toInt32) (((0 : Int32) + (N1 : Nat).toInt32) + (M1 : Nat).toInt32)) 1 (((0 : Int32) + (N1 : Nat).toInt32) + (M1 : Nat).toInt32) ((((0 : Int32) + (N1 : Nat).toInt32) + (M1 : Nat).toInt32) + (N2 : Nat).toInt32) ((((0 : Int32) + (N1 : Nat).toInt32) + (M1 : Nat).toInt32) + (N2 : Nat).toInt32) (((((0 : Int32) + (N1 : Nat).toInt32) + (M1 : Nat).toInt32) + (N2 : Nat).toInt32) + (M2 : Nat).toInt32)) 2 (((((0 : Int32) + (N1 : Nat).toInt32) + (M1 : Nat).toInt32) + (N2 : Nat).toInt32) + (M2 : Nat).toInt32) ((((((0 : Int32) + (N1 : Nat).toInt32) + (M1 : Nat).toInt32) + (N2 : Nat).toInt32) + (M2 : Nat).toInt32) + (N3 : Nat).toInt32) ((((((0 : Int32) + (N1 : Nat).toInt32) + (M1 : Nat).toInt32) + (N2 : Nat).toInt32) + (M2 : Nat).toInt32) + (N3 : Nat).toInt32) (((((((0 : Int32) + (N1 : Nat).toInt32) + (M1 : Nat).toInt32) + (N2 : Nat).toInt32) + (M2 : Nat).toInt32) + (N3 : Nat).toInt32) + (M3 : Nat).toInt32)) R296 3 rfl (by omega)) pd_16 rfl rfl rfl (Nat.le_of_eq rfl) (by decide) (by decide) rfl rfl (by decide) (by decide) ?_
  rintro v hh329 ⟨rfl, he329⟩
  rw [he329]
  refine WP.castS (st' := [(.int (sz (sp4 (sp4 (sp4 (fun _ => 0) 0 (0 : Int32) ((0 : Int32) + (N1 : Nat).toInt32) ((0 : Int32) + (N1 : Nat).toInt32) (((0 : Int32) + (N1 : Nat).toInt32) + (M1 : Nat).toInt32)) 1 (((0 : Int32) + (N1 : Nat).toInt32) + (M1 : Nat).toInt32) ((((0 : Int32) + (N1 : Nat).toInt32) + (M1 : Nat).toInt32) + (N2 : Nat).toInt32) ((((0 : Int32) + (N1 : Nat).toInt32) + (M1 : Nat).toInt32) + (N2 : Nat).toInt32) (((((0 : Int32) + (N1 : Nat).toInt32) + (M1 : Nat).toInt32) + (N2 : Nat).toInt32) + (M2 : Nat).toInt32)) 2 (((((0 : Int32) + (N1 : Nat).toInt32) + (M1 : Nat).toInt32) + (N2 : Nat).toInt32) + (M2 : Nat).toInt32) ((((((0 : Int32) + (N1 : Nat).toInt32) + (M1 : Nat).toInt32) + (N2 : Nat).toInt32) + (M2 : Nat).toInt32) + (N3 : Nat).toInt32) ((((((0 : Int32) + (N1 : Nat).toInt32) + (M1 : Nat).toInt32) + (N2 : Nat).toInt32) + (M2 : Nat).toInt32) + (N3 : Nat).toInt32) (((((((0 : Int32) + (N1 : Nat).toInt32) + (M1 : Nat).toInt32) + (N2 : Nat).toInt32) + (M2 : Nat).toInt32) + (N3 : Nat).toInt32) + (M3 : Nat).toInt32)) 3))]) rfl ?_
  generalize ht330 : (sz (sp4 (sp4 (sp4 (fun _ => 0) 0 (0 : Int32) ((0 : Int32) + (N1 : Nat).toInt32) ((0 : Int32) + (N1 : Nat).toInt32) (((0 : Int32) + (N1 : Nat).toInt32) + (M1 : Nat).toInt32)) 1 (((0 : Int32) + (N1 : Nat).toInt32) + (M1 : Nat).toInt32) ((((0 : Int32) + (N1 : Nat).toInt32) + (M1 : Nat).toInt32) + (N2 : Nat).toInt32) ((((0 : Int32) + (N1 : Nat).toInt32) + (M1 : Nat).toInt32) + (N2 : Nat).toInt32) (((((0 : Int32) + (N1 : Nat).toInt32) + (M1 : Nat).toInt32) + (N2 : Nat).toInt32) + (M2 : Nat).toInt32)) 2 (((((0 : Int32) + (N1 : Nat).toInt32) + (M1 : Nat).toInt32) + (N2 : Nat).toInt32) + (M2 : Nat).toInt32) ((((((0 : Int32) + (N1 : Nat).toInt32) + (M1 : Nat).toInt32) + (N2 : Nat).toInt32) + (M2 : Nat).toInt32) + (N3 : Nat).toInt32) ((((((0 : Int32) + (N1 : Nat).toInt32) + (M1 : Nat).toInt32) + (N2 : Nat).toInt32) + (M2 : Nat).toInt32) + (N3 : Nat).toInt32) (((((((0 : Int32) + (N1 : Nat).toInt32) + (M1 : Nat).toInt32) + (N2 : Nat).toInt32) + (M2 : Nat).toInt32) + (N3 : Nat).toInt32) + (M3 : Nat).toInt32)) 3) = t330
  refine WP.istore (pc' := 131) at_129 rfl (Ls' := #[.val (.int x0), .val (.int x1), .val (.int x2), .val (.int x3), .val (.int x4), .val (.int t1), .val (.int t2), .val (.int t3), .val (.int t4), .val (.ref s5), .val (.ref s8), .val (.ref s15), .val (.ref s26), .val (.ref s41), .val (.ref s60), .val (.ref s83), .val (.ref b110), .val (.int t229), .val (.int t330), .unset, .unset, .unset, .unset, .unset, .unset]) rfl ?_
  have hu0 : (0 : Int32).toInt = ((0 : Nat) : Int) := rfl
  have hu1 := adds hu0 (natI (n := N1) (by omega)) (by omega)
  have hu2 := adds hu1 (natI (n := M1) (by omega)) (by omega)
  have hu3 := adds hu2 (natI (n := N2) (by omega)) (by omega)
  have hu4 := adds hu3 (natI (n := M2) (by omega)) (by omega)
  have hu5 := adds hu4 (natI (n := N3) (by omega)) (by omega)
  have hAB : ∀ j, j < 3 → ((sp4 (sp4 (sp4 (fun _ => 0) 0 (0 : Int32) ((0 : Int32) + (N1 : Nat).toInt32) ((0 : Int32) + (N1 : Nat).toInt32) (((0 : Int32) + (N1 : Nat).toInt32) + (M1 : Nat).toInt32)) 1 (((0 : Int32) + (N1 : Nat).toInt32) + (M1 : Nat).toInt32) ((((0 : Int32) + (N1 : Nat).toInt32) + (M1 : Nat).toInt32) + (N2 : Nat).toInt32) ((((0 : Int32) + (N1 : Nat).toInt32) + (M1 : Nat).toInt32) + (N2 : Nat).toInt32) (((((0 : Int32) + (N1 : Nat).toInt32) + (M1 : Nat).toInt32) + (N2 : Nat).toInt32) + (M2 : Nat).toInt32)) 2 (((((0 : Int32) + (N1 : Nat).toInt32) + (M1 : Nat).toInt32) + (N2 : Nat).toInt32) + (M2 : Nat).toInt32) ((((((0 : Int32) + (N1 : Nat).toInt32) + (M1 : Nat).toInt32) + (N2 : Nat).toInt32) + (M2 : Nat).toInt32) + (N3 : Nat).toInt32) ((((((0 : Int32) + (N1 : Nat).toInt32) + (M1 : Nat).toInt32) + (N2 : Nat).toInt32) + (M2 : Nat).toInt32) + (N3 : Nat).toInt32) (((((((0 : Int32) + (N1 : Nat).toInt32) + (M1 : Nat).toInt32) + (N2 : Nat).toInt32) + (M2 : Nat).toInt32) + (N3 : Nat).toInt32) + (M3 : Nat).toInt32)) (4 * j)).toInt = (((fun j => if j = 0 then 0 else if j = 1 then 0 + N1 + M1 else 0 + N1 + M1 + N2 + M2) j : Nat) : Int) ∧ ((sp4 (sp4 (sp4 (fun _ => 0) 0 (0 : Int32) ((0 : Int32) + (N1 : Nat).toInt32) ((0 : Int32) + (N1 : Nat).toInt32) (((0 : Int32) + (N1 : Nat).toInt32) + (M1 : Nat).toInt32)) 1 (((0 : Int32) + (N1 : Nat).toInt32) + (M1 : Nat).toInt32) ((((0 : Int32) + (N1 : Nat).toInt32) + (M1 : Nat).toInt32) + (N2 : Nat).toInt32) ((((0 : Int32) + (N1 : Nat).toInt32) + (M1 : Nat).toInt32) + (N2 : Nat).toInt32) (((((0 : Int32) + (N1 : Nat).toInt32) + (M1 : Nat).toInt32) + (N2 : Nat).toInt32) + (M2 : Nat).toInt32)) 2 (((((0 : Int32) + (N1 : Nat).toInt32) + (M1 : Nat).toInt32) + (N2 : Nat).toInt32) + (M2 : Nat).toInt32) ((((((0 : Int32) + (N1 : Nat).toInt32) + (M1 : Nat).toInt32) + (N2 : Nat).toInt32) + (M2 : Nat).toInt32) + (N3 : Nat).toInt32) ((((((0 : Int32) + (N1 : Nat).toInt32) + (M1 : Nat).toInt32) + (N2 : Nat).toInt32) + (M2 : Nat).toInt32) + (N3 : Nat).toInt32) (((((((0 : Int32) + (N1 : Nat).toInt32) + (M1 : Nat).toInt32) + (N2 : Nat).toInt32) + (M2 : Nat).toInt32) + (N3 : Nat).toInt32) + (M3 : Nat).toInt32)) (4 * j + 1)).toInt = (((fun j => if j = 0 then 0 + N1 else if j = 1 then 0 + N1 + M1 + N2 else 0 + N1 + M1 + N2 + M2 + N3) j : Nat) : Int) ∧ (fun j => if j = 0 then 0 else if j = 1 then 0 + N1 + M1 else 0 + N1 + M1 + N2 + M2) j ≤ (fun j => if j = 0 then 0 + N1 else if j = 1 then 0 + N1 + M1 + N2 else 0 + N1 + M1 + N2 + M2 + N3) j ∧ (fun j => if j = 0 then 0 + N1 else if j = 1 then 0 + N1 + M1 + N2 else 0 + N1 + M1 + N2 + M2 + N3) j ≤ 512 := fun j hj => by
    have hj3 : j = 0 ∨ j = 1 ∨ j = 2 := by omega
    rcases hj3 with rfl | rfl | rfl
    · exact ⟨hu0, hu1, by show 0 ≤ 0 + N1; omega, by show 0 + N1 ≤ 512; omega⟩
    · exact ⟨hu2, hu3, by show 0 + N1 + M1 ≤ 0 + N1 + M1 + N2; omega, by show 0 + N1 + M1 + N2 ≤ 512; omega⟩
    · exact ⟨hu4, hu5, by show 0 + N1 + M1 + N2 + M2 ≤ 0 + N1 + M1 + N2 + M2 + N3; omega, by show 0 + N1 + M1 + N2 + M2 + N3 ≤ 512; omega⟩
  refine WP.aload (pc' := 133) at_131 rfl rfl rfl ?_
  refine WP.aload (pc' := 135) at_133 rfl rfl rfl ?_
  refine WP.callV (a := b110) (K := "com/example/vipool/vipool/http/HttpHead") (argsL := [(.ref s26)]) (rest := []) (wd := 0) (cl' := 45) (sl' := 667) (pc' := 138) at_135 rfl (wd135 hw) (wd136 hw) (nfS (wd138 hw) rfl) (wd138 hw) (wd137 hw) (wd62 hw) (wd139 hw) (by decide) R296.2.1 (m_rem hw b110 s26 h296 n0 Z328 O326 cs S_CS hcs fv hfv S_FM rw165 sp165 (((((((0 : Int32) + (N1 : Nat).toInt32) + (M1 : Nat).toInt32) + (N2 : Nat).toInt32) + (M2 : Nat).toInt32) + (N3 : Nat).toInt32) + (M3 : Nat).toInt32) ((((0 : Int32) + 1) + 1) + 1) (lay (lay (lay (lay (lay (lay (fun _ => 0) (0) N1 (ng t1)) (0 + N1) M1 gv41) (0 + N1 + M1) N2 (ng t2)) (0 + N1 + M1 + N2) M2 gv60) (0 + N1 + M1 + N2 + M2) N3 (ng t3)) (0 + N1 + M1 + N2 + M2 + N3) M3 gv83) (sp4 (sp4 (sp4 (fun _ => 0) 0 (0 : Int32) ((0 : Int32) + (N1 : Nat).toInt32) ((0 : Int32) + (N1 : Nat).toInt32) (((0 : Int32) + (N1 : Nat).toInt32) + (M1 : Nat).toInt32)) 1 (((0 : Int32) + (N1 : Nat).toInt32) + (M1 : Nat).toInt32) ((((0 : Int32) + (N1 : Nat).toInt32) + (M1 : Nat).toInt32) + (N2 : Nat).toInt32) ((((0 : Int32) + (N1 : Nat).toInt32) + (M1 : Nat).toInt32) + (N2 : Nat).toInt32) (((((0 : Int32) + (N1 : Nat).toInt32) + (M1 : Nat).toInt32) + (N2 : Nat).toInt32) + (M2 : Nat).toInt32)) 2 (((((0 : Int32) + (N1 : Nat).toInt32) + (M1 : Nat).toInt32) + (N2 : Nat).toInt32) + (M2 : Nat).toInt32) ((((((0 : Int32) + (N1 : Nat).toInt32) + (M1 : Nat).toInt32) + (N2 : Nat).toInt32) + (M2 : Nat).toInt32) + (N3 : Nat).toInt32) ((((((0 : Int32) + (N1 : Nat).toInt32) + (M1 : Nat).toInt32) + (N2 : Nat).toInt32) + (M2 : Nat).toInt32) + (N3 : Nat).toInt32) (((((((0 : Int32) + (N1 : Nat).toInt32) + (M1 : Nat).toInt32) + (N2 : Nat).toInt32) + (M2 : Nat).toInt32) + (N3 : Nat).toInt32) + (M3 : Nat).toInt32)) R296 c26 N4 (ng t4) E309 F310 F311 V312 ne118 ne172 ne187 ne119 ne173 ne188 (by omega) 3 (fun j => if j = 0 then 0 else if j = 1 then 0 + N1 + M1 else 0 + N1 + M1 + N2 + M2) (fun j => if j = 0 then 0 + N1 else if j = 1 then 0 + N1 + M1 + N2 else 0 + N1 + M1 + N2 + M2 + N3) rfl (by omega) hAB) pd_18 rfl rfl rfl (Nat.le_of_eq rfl) (by decide) (by decide) rfl rfl (by decide) (by decide) ?_
  rintro v h331 ⟨rfl, e331, K331, R331, of331, rr331⟩
  have E332 := E297.keep K331
  have F333 := F298.keep K331 (ninS ne181 nin0)
  have F334 := F299.keep K331 (ninS ne181 nin0)
  have V335 := V300.keep K331 (ninS ne182 nin0)
  have E336 := E301.keep K331
  have F337 := F302.keep K331 (ninS ne183 nin0)
  have F338 := F303.keep K331 (ninS ne183 nin0)
  have V339 := V304.keep K331 (ninS ne184 nin0)
  have E340 := E305.keep K331
  have F341 := F306.keep K331 (ninS ne185 nin0)
  have F342 := F307.keep K331 (ninS ne185 nin0)
  have V343 := V308.keep K331 (ninS ne186 nin0)
  have E344 := E309.keep K331
  have F345 := F310.keep K331 (ninS ne187 nin0)
  have F346 := F311.keep K331 (ninS ne187 nin0)
  have V347 := V312.keep K331 (ninS ne188 nin0)
  have E348 := E313.keep K331
  have F349 := F314.keep K331 (ninS ne189 nin0)
  have F350 := F315.keep K331 (ninS ne189 nin0)
  have V351 := V316.keep K331 (ninS ne190 nin0)
  have E352 := E317.keep K331
  have F353 := F318.keep K331 (ninS ne191 nin0)
  have F354 := F319.keep K331 (ninS ne191 nin0)
  have V355 := V320.keep K331 (ninS ne192 nin0)
  have E356 := E321.keep K331
  have F357 := F322.keep K331 (ninS ne193 nin0)
  have F358 := F323.keep K331 (ninS ne193 nin0)
  have V359 := V324.keep K331 (ninS ne194 nin0)
  have E360 := E325.keep K331
  have O361 := O326.keep K331 (allS R165.1.2.2.1 all0)
  have sn362 := sn327.grow K331.1
  have Z363 : n0 ≤ h331.size := Nat.le_trans Z328 K331.1
  refine WP.castS (st' := []) rfl ?_
  refine WP.aload (pc' := 140) at_138 rfl rfl rfl ?_
  refine WP.callV (a := b110) (K := "com/example/vipool/vipool/http/HttpHead") (argsL := []) (rest := []) (wd := 0) (cl' := 45) (sl' := 667) (pc' := 143) at_140 rfl (wd72 hw) (wd73 hw) (nfS (wd75 hw) rfl) (wd75 hw) (wd74 hw) (wd62 hw) (wd76 hw) (by decide) R331.2.1 (m_size hw b110 h331 n0 rw165 sp165 (((((((0 : Int32) + (N1 : Nat).toInt32) + (M1 : Nat).toInt32) + (N2 : Nat).toInt32) + (M2 : Nat).toInt32) + (N3 : Nat).toInt32) + (M3 : Nat).toInt32) ((((0 : Int32) + 1) + 1) + 1) (lay (lay (lay (lay (lay (lay (fun _ => 0) (0) N1 (ng t1)) (0 + N1) M1 gv41) (0 + N1 + M1) N2 (ng t2)) (0 + N1 + M1 + N2) M2 gv60) (0 + N1 + M1 + N2 + M2) N3 (ng t3)) (0 + N1 + M1 + N2 + M2 + N3) M3 gv83) e331 R331 3 rfl (by omega)) pd_16 rfl rfl rfl (Nat.le_of_eq rfl) (by decide) (by decide) rfl rfl (by decide) (by decide) ?_
  rintro v hh364 ⟨rfl, he364⟩
  rw [he364]
  refine WP.castS (st' := [(.int (sz e331 3))]) rfl ?_
  generalize ht365 : (sz e331 3) = t365
  refine WP.istore (pc' := 145) at_143 rfl (Ls' := #[.val (.int x0), .val (.int x1), .val (.int x2), .val (.int x3), .val (.int x4), .val (.int t1), .val (.int t2), .val (.int t3), .val (.int t4), .val (.ref s5), .val (.ref s8), .val (.ref s15), .val (.ref s26), .val (.ref s41), .val (.ref s60), .val (.ref s83), .val (.ref b110), .val (.int t229), .val (.int t330), .val (.int t365), .unset, .unset, .unset, .unset, .unset]) rfl ?_
  refine WP.iload (pc' := 147) at_145 rfl rfl ?_
  refine WP.iconst (pc' := 148) at_147 rfl (z := 3) rfl ?_
  refine WP.iand (pc' := 149) at_148 rfl ?_
  refine WP.iloadN (pc' := 150) at_149 rfl rfl ?_
  refine WP.iconst (pc' := 151) at_150 rfl (z := 3) rfl ?_
  refine WP.iand (pc' := 152) at_151 rfl ?_
  refine WP.iadd (pc' := 153) at_152 rfl ?_
  refine WP.iconst (pc' := 154) at_153 rfl (z := 4) rfl ?_
  refine WP.iadd (pc' := 155) at_154 rfl ?_
  generalize ht366 : (((t1 &&& (3 : Int32)) + (x1 &&& (3 : Int32))) + (4 : Int32)) = t366
  refine WP.istore (pc' := 157) at_155 rfl (Ls' := #[.val (.int x0), .val (.int x1), .val (.int x2), .val (.int x3), .val (.int x4), .val (.int t1), .val (.int t2), .val (.int t3), .val (.int t4), .val (.ref s5), .val (.ref s8), .val (.ref s15), .val (.ref s26), .val (.ref s41), .val (.ref s60), .val (.ref s83), .val (.ref b110), .val (.int t229), .val (.int t330), .val (.int t365), .val (.int t366), .unset, .unset, .unset, .unset]) rfl ?_
  refine WP.iload (pc' := 159) at_157 rfl rfl ?_
  refine WP.iconst (pc' := 160) at_159 rfl (z := 3) rfl ?_
  refine WP.iand (pc' := 161) at_160 rfl ?_
  refine WP.iloadN (pc' := 162) at_161 rfl rfl ?_
  refine WP.iconst (pc' := 163) at_162 rfl (z := 3) rfl ?_
  refine WP.iand (pc' := 164) at_163 rfl ?_
  refine WP.iadd (pc' := 165) at_164 rfl ?_
  refine WP.iconst (pc' := 166) at_165 rfl (z := 4) rfl ?_
  refine WP.iadd (pc' := 167) at_166 rfl ?_
  generalize ht367 : (((t2 &&& (3 : Int32)) + (x2 &&& (3 : Int32))) + (4 : Int32)) = t367
  refine WP.istore (pc' := 169) at_167 rfl (Ls' := #[.val (.int x0), .val (.int x1), .val (.int x2), .val (.int x3), .val (.int x4), .val (.int t1), .val (.int t2), .val (.int t3), .val (.int t4), .val (.ref s5), .val (.ref s8), .val (.ref s15), .val (.ref s26), .val (.ref s41), .val (.ref s60), .val (.ref s83), .val (.ref b110), .val (.int t229), .val (.int t330), .val (.int t365), .val (.int t366), .val (.int t367), .unset, .unset, .unset]) rfl ?_
  refine WP.iload (pc' := 171) at_169 rfl rfl ?_
  refine WP.iconst (pc' := 172) at_171 rfl (z := 3) rfl ?_
  refine WP.iand (pc' := 173) at_172 rfl ?_
  refine WP.iloadN (pc' := 174) at_173 rfl rfl ?_
  refine WP.iconst (pc' := 175) at_174 rfl (z := 3) rfl ?_
  refine WP.iand (pc' := 176) at_175 rfl ?_
  refine WP.iadd (pc' := 177) at_176 rfl ?_
  refine WP.iconst (pc' := 178) at_177 rfl (z := 4) rfl ?_
  refine WP.iadd (pc' := 179) at_178 rfl ?_
  generalize ht368 : (((t3 &&& (3 : Int32)) + (x3 &&& (3 : Int32))) + (4 : Int32)) = t368
  refine WP.istore (pc' := 181) at_179 rfl (Ls' := #[.val (.int x0), .val (.int x1), .val (.int x2), .val (.int x3), .val (.int x4), .val (.int t1), .val (.int t2), .val (.int t3), .val (.int t4), .val (.ref s5), .val (.ref s8), .val (.ref s15), .val (.ref s26), .val (.ref s41), .val (.ref s60), .val (.ref s83), .val (.ref b110), .val (.int t229), .val (.int t330), .val (.int t365), .val (.int t366), .val (.int t367), .val (.int t368), .unset, .unset]) rfl ?_
  refine WP.bipush (pc' := 183) at_181 rfl (z := 17) rfl ?_
  refine WP.iload (pc' := 185) at_183 rfl rfl ?_
  refine WP.iadd (pc' := 186) at_185 rfl ?_
  refine WP.iload (pc' := 188) at_186 rfl rfl ?_
  refine WP.iadd (pc' := 189) at_188 rfl ?_
  refine WP.iload (pc' := 191) at_189 rfl rfl ?_
  refine WP.iadd (pc' := 192) at_191 rfl ?_
  generalize ht369 : ((((17 : Int32) + t366) + t367) + t368) = t369
  refine WP.istore (pc' := 194) at_192 rfl (Ls' := #[.val (.int x0), .val (.int x1), .val (.int x2), .val (.int x3), .val (.int x4), .val (.int t1), .val (.int t2), .val (.int t3), .val (.int t4), .val (.ref s5), .val (.ref s8), .val (.ref s15), .val (.ref s26), .val (.ref s41), .val (.ref s60), .val (.ref s83), .val (.ref b110), .val (.int t229), .val (.int t330), .val (.int t365), .val (.int t366), .val (.int t367), .val (.int t368), .val (.int t369), .unset]) rfl ?_
  refine WP.iload (pc' := 196) at_194 rfl rfl ?_
  refine WP.istore (pc' := 198) at_196 rfl (Ls' := #[.val (.int x0), .val (.int x1), .val (.int x2), .val (.int x3), .val (.int x4), .val (.int t1), .val (.int t2), .val (.int t3), .val (.int t4), .val (.ref s5), .val (.ref s8), .val (.ref s15), .val (.ref s26), .val (.ref s41), .val (.ref s60), .val (.ref s83), .val (.ref b110), .val (.int t229), .val (.int t330), .val (.int t365), .val (.int t366), .val (.int t367), .val (.int t368), .val (.int t369), .val (.int t369)]) rfl ?_
  have ne1 : ¬ (sp4 (sp4 (sp4 (fun _ => 0) 0 (0 : Int32) ((0 : Int32) + (N1 : Nat).toInt32) ((0 : Int32) + (N1 : Nat).toInt32) (((0 : Int32) + (N1 : Nat).toInt32) + (M1 : Nat).toInt32)) 1 (((0 : Int32) + (N1 : Nat).toInt32) + (M1 : Nat).toInt32) ((((0 : Int32) + (N1 : Nat).toInt32) + (M1 : Nat).toInt32) + (N2 : Nat).toInt32) ((((0 : Int32) + (N1 : Nat).toInt32) + (M1 : Nat).toInt32) + (N2 : Nat).toInt32) (((((0 : Int32) + (N1 : Nat).toInt32) + (M1 : Nat).toInt32) + (N2 : Nat).toInt32) + (M2 : Nat).toInt32)) 2 (((((0 : Int32) + (N1 : Nat).toInt32) + (M1 : Nat).toInt32) + (N2 : Nat).toInt32) + (M2 : Nat).toInt32) ((((((0 : Int32) + (N1 : Nat).toInt32) + (M1 : Nat).toInt32) + (N2 : Nat).toInt32) + (M2 : Nat).toInt32) + (N3 : Nat).toInt32) ((((((0 : Int32) + (N1 : Nat).toInt32) + (M1 : Nat).toInt32) + (N2 : Nat).toInt32) + (M2 : Nat).toInt32) + (N3 : Nat).toInt32) (((((((0 : Int32) + (N1 : Nat).toInt32) + (M1 : Nat).toInt32) + (N2 : Nat).toInt32) + (M2 : Nat).toInt32) + (N3 : Nat).toInt32) + (M3 : Nat).toInt32)) (4 * 0) = -1 := nneg (hAB 0 (by omega)).1
  have n1e : (N1 : Nat).toInt32 = t1 &&& 3 := Int32.toInt_inj.mp ((natI (by omega)).trans hN1.symm)
  have m1e : (M1 : Nat).toInt32 = x1 &&& 3 := Int32.toInt_inj.mp ((natI (by omega)).trans hM1.symm)
  have cc1 : (sp4 (sp4 (sp4 (fun _ => 0) 0 (0 : Int32) ((0 : Int32) + (N1 : Nat).toInt32) ((0 : Int32) + (N1 : Nat).toInt32) (((0 : Int32) + (N1 : Nat).toInt32) + (M1 : Nat).toInt32)) 1 (((0 : Int32) + (N1 : Nat).toInt32) + (M1 : Nat).toInt32) ((((0 : Int32) + (N1 : Nat).toInt32) + (M1 : Nat).toInt32) + (N2 : Nat).toInt32) ((((0 : Int32) + (N1 : Nat).toInt32) + (M1 : Nat).toInt32) + (N2 : Nat).toInt32) (((((0 : Int32) + (N1 : Nat).toInt32) + (M1 : Nat).toInt32) + (N2 : Nat).toInt32) + (M2 : Nat).toInt32)) 2 (((((0 : Int32) + (N1 : Nat).toInt32) + (M1 : Nat).toInt32) + (N2 : Nat).toInt32) + (M2 : Nat).toInt32) ((((((0 : Int32) + (N1 : Nat).toInt32) + (M1 : Nat).toInt32) + (N2 : Nat).toInt32) + (M2 : Nat).toInt32) + (N3 : Nat).toInt32) ((((((0 : Int32) + (N1 : Nat).toInt32) + (M1 : Nat).toInt32) + (N2 : Nat).toInt32) + (M2 : Nat).toInt32) + (N3 : Nat).toInt32) (((((((0 : Int32) + (N1 : Nat).toInt32) + (M1 : Nat).toInt32) + (N2 : Nat).toInt32) + (M2 : Nat).toInt32) + (N3 : Nat).toInt32) + (M3 : Nat).toInt32)) (4 * 0 + 1) - (sp4 (sp4 (sp4 (fun _ => 0) 0 (0 : Int32) ((0 : Int32) + (N1 : Nat).toInt32) ((0 : Int32) + (N1 : Nat).toInt32) (((0 : Int32) + (N1 : Nat).toInt32) + (M1 : Nat).toInt32)) 1 (((0 : Int32) + (N1 : Nat).toInt32) + (M1 : Nat).toInt32) ((((0 : Int32) + (N1 : Nat).toInt32) + (M1 : Nat).toInt32) + (N2 : Nat).toInt32) ((((0 : Int32) + (N1 : Nat).toInt32) + (M1 : Nat).toInt32) + (N2 : Nat).toInt32) (((((0 : Int32) + (N1 : Nat).toInt32) + (M1 : Nat).toInt32) + (N2 : Nat).toInt32) + (M2 : Nat).toInt32)) 2 (((((0 : Int32) + (N1 : Nat).toInt32) + (M1 : Nat).toInt32) + (N2 : Nat).toInt32) + (M2 : Nat).toInt32) ((((((0 : Int32) + (N1 : Nat).toInt32) + (M1 : Nat).toInt32) + (N2 : Nat).toInt32) + (M2 : Nat).toInt32) + (N3 : Nat).toInt32) ((((((0 : Int32) + (N1 : Nat).toInt32) + (M1 : Nat).toInt32) + (N2 : Nat).toInt32) + (M2 : Nat).toInt32) + (N3 : Nat).toInt32) (((((((0 : Int32) + (N1 : Nat).toInt32) + (M1 : Nat).toInt32) + (N2 : Nat).toInt32) + (M2 : Nat).toInt32) + (N3 : Nat).toInt32) + (M3 : Nat).toInt32)) (4 * 0) + 2 + (sp4 (sp4 (sp4 (fun _ => 0) 0 (0 : Int32) ((0 : Int32) + (N1 : Nat).toInt32) ((0 : Int32) + (N1 : Nat).toInt32) (((0 : Int32) + (N1 : Nat).toInt32) + (M1 : Nat).toInt32)) 1 (((0 : Int32) + (N1 : Nat).toInt32) + (M1 : Nat).toInt32) ((((0 : Int32) + (N1 : Nat).toInt32) + (M1 : Nat).toInt32) + (N2 : Nat).toInt32) ((((0 : Int32) + (N1 : Nat).toInt32) + (M1 : Nat).toInt32) + (N2 : Nat).toInt32) (((((0 : Int32) + (N1 : Nat).toInt32) + (M1 : Nat).toInt32) + (N2 : Nat).toInt32) + (M2 : Nat).toInt32)) 2 (((((0 : Int32) + (N1 : Nat).toInt32) + (M1 : Nat).toInt32) + (N2 : Nat).toInt32) + (M2 : Nat).toInt32) ((((((0 : Int32) + (N1 : Nat).toInt32) + (M1 : Nat).toInt32) + (N2 : Nat).toInt32) + (M2 : Nat).toInt32) + (N3 : Nat).toInt32) ((((((0 : Int32) + (N1 : Nat).toInt32) + (M1 : Nat).toInt32) + (N2 : Nat).toInt32) + (M2 : Nat).toInt32) + (N3 : Nat).toInt32) (((((((0 : Int32) + (N1 : Nat).toInt32) + (M1 : Nat).toInt32) + (N2 : Nat).toInt32) + (M2 : Nat).toInt32) + (N3 : Nat).toInt32) + (M3 : Nat).toInt32)) (4 * 0 + 3) - (sp4 (sp4 (sp4 (fun _ => 0) 0 (0 : Int32) ((0 : Int32) + (N1 : Nat).toInt32) ((0 : Int32) + (N1 : Nat).toInt32) (((0 : Int32) + (N1 : Nat).toInt32) + (M1 : Nat).toInt32)) 1 (((0 : Int32) + (N1 : Nat).toInt32) + (M1 : Nat).toInt32) ((((0 : Int32) + (N1 : Nat).toInt32) + (M1 : Nat).toInt32) + (N2 : Nat).toInt32) ((((0 : Int32) + (N1 : Nat).toInt32) + (M1 : Nat).toInt32) + (N2 : Nat).toInt32) (((((0 : Int32) + (N1 : Nat).toInt32) + (M1 : Nat).toInt32) + (N2 : Nat).toInt32) + (M2 : Nat).toInt32)) 2 (((((0 : Int32) + (N1 : Nat).toInt32) + (M1 : Nat).toInt32) + (N2 : Nat).toInt32) + (M2 : Nat).toInt32) ((((((0 : Int32) + (N1 : Nat).toInt32) + (M1 : Nat).toInt32) + (N2 : Nat).toInt32) + (M2 : Nat).toInt32) + (N3 : Nat).toInt32) ((((((0 : Int32) + (N1 : Nat).toInt32) + (M1 : Nat).toInt32) + (N2 : Nat).toInt32) + (M2 : Nat).toInt32) + (N3 : Nat).toInt32) (((((((0 : Int32) + (N1 : Nat).toInt32) + (M1 : Nat).toInt32) + (N2 : Nat).toInt32) + (M2 : Nat).toInt32) + (N3 : Nat).toInt32) + (M3 : Nat).toInt32)) (4 * 0 + 2) + 2 = t366 := (ring1 _ (N1 : Nat).toInt32 (M1 : Nat).toInt32).trans (by rw [n1e, m1e]; exact ht366)
  have bz1 : sz (sp4 (sp4 (sp4 (fun _ => 0) 0 (0 : Int32) ((0 : Int32) + (N1 : Nat).toInt32) ((0 : Int32) + (N1 : Nat).toInt32) (((0 : Int32) + (N1 : Nat).toInt32) + (M1 : Nat).toInt32)) 1 (((0 : Int32) + (N1 : Nat).toInt32) + (M1 : Nat).toInt32) ((((0 : Int32) + (N1 : Nat).toInt32) + (M1 : Nat).toInt32) + (N2 : Nat).toInt32) ((((0 : Int32) + (N1 : Nat).toInt32) + (M1 : Nat).toInt32) + (N2 : Nat).toInt32) (((((0 : Int32) + (N1 : Nat).toInt32) + (M1 : Nat).toInt32) + (N2 : Nat).toInt32) + (M2 : Nat).toInt32)) 2 (((((0 : Int32) + (N1 : Nat).toInt32) + (M1 : Nat).toInt32) + (N2 : Nat).toInt32) + (M2 : Nat).toInt32) ((((((0 : Int32) + (N1 : Nat).toInt32) + (M1 : Nat).toInt32) + (N2 : Nat).toInt32) + (M2 : Nat).toInt32) + (N3 : Nat).toInt32) ((((((0 : Int32) + (N1 : Nat).toInt32) + (M1 : Nat).toInt32) + (N2 : Nat).toInt32) + (M2 : Nat).toInt32) + (N3 : Nat).toInt32) (((((((0 : Int32) + (N1 : Nat).toInt32) + (M1 : Nat).toInt32) + (N2 : Nat).toInt32) + (M2 : Nat).toInt32) + (N3 : Nat).toInt32) + (M3 : Nat).toInt32)) 1 = sz (sp4 (sp4 (sp4 (fun _ => 0) 0 (0 : Int32) ((0 : Int32) + (N1 : Nat).toInt32) ((0 : Int32) + (N1 : Nat).toInt32) (((0 : Int32) + (N1 : Nat).toInt32) + (M1 : Nat).toInt32)) 1 (((0 : Int32) + (N1 : Nat).toInt32) + (M1 : Nat).toInt32) ((((0 : Int32) + (N1 : Nat).toInt32) + (M1 : Nat).toInt32) + (N2 : Nat).toInt32) ((((0 : Int32) + (N1 : Nat).toInt32) + (M1 : Nat).toInt32) + (N2 : Nat).toInt32) (((((0 : Int32) + (N1 : Nat).toInt32) + (M1 : Nat).toInt32) + (N2 : Nat).toInt32) + (M2 : Nat).toInt32)) 2 (((((0 : Int32) + (N1 : Nat).toInt32) + (M1 : Nat).toInt32) + (N2 : Nat).toInt32) + (M2 : Nat).toInt32) ((((((0 : Int32) + (N1 : Nat).toInt32) + (M1 : Nat).toInt32) + (N2 : Nat).toInt32) + (M2 : Nat).toInt32) + (N3 : Nat).toInt32) ((((((0 : Int32) + (N1 : Nat).toInt32) + (M1 : Nat).toInt32) + (N2 : Nat).toInt32) + (M2 : Nat).toInt32) + (N3 : Nat).toInt32) (((((((0 : Int32) + (N1 : Nat).toInt32) + (M1 : Nat).toInt32) + (N2 : Nat).toInt32) + (M2 : Nat).toInt32) + (N3 : Nat).toInt32) + (M3 : Nat).toInt32)) 0 + t366 := sz_in (j := 0) ne1 cc1 rfl (fun _ _ => rfl)
  have gg1 : ∀ i, i < N1 → (lay (lay (lay (lay (lay (lay (fun _ => 0) (0) N1 (ng t1)) (0 + N1) M1 gv41) (0 + N1 + M1) N2 (ng t2)) (0 + N1 + M1 + N2) M2 gv60) (0 + N1 + M1 + N2 + M2) N3 (ng t3)) (0 + N1 + M1 + N2 + M2 + N3) M3 gv83) (0 + i) = ng t1 i := fun i hi => by rw [lay_out (by omega), lay_out (by omega), lay_out (by omega), lay_out (by omega), lay_out (by omega), lay_in (by omega)]; congr 1; omega
  have ns1 := nm_sm (m := t4) hN1 hN4 lN1 gg1
  have ysm1 : SM t1 t4 → e331 (4 * 0) = -1 := fun z => (rr331 0 (by omega)).1 (ns1.mpr z)
  have xsm1 : ¬ SM t1 t4 → e331 (4 * 0) = (sp4 (sp4 (sp4 (fun _ => 0) 0 (0 : Int32) ((0 : Int32) + (N1 : Nat).toInt32) ((0 : Int32) + (N1 : Nat).toInt32) (((0 : Int32) + (N1 : Nat).toInt32) + (M1 : Nat).toInt32)) 1 (((0 : Int32) + (N1 : Nat).toInt32) + (M1 : Nat).toInt32) ((((0 : Int32) + (N1 : Nat).toInt32) + (M1 : Nat).toInt32) + (N2 : Nat).toInt32) ((((0 : Int32) + (N1 : Nat).toInt32) + (M1 : Nat).toInt32) + (N2 : Nat).toInt32) (((((0 : Int32) + (N1 : Nat).toInt32) + (M1 : Nat).toInt32) + (N2 : Nat).toInt32) + (M2 : Nat).toInt32)) 2 (((((0 : Int32) + (N1 : Nat).toInt32) + (M1 : Nat).toInt32) + (N2 : Nat).toInt32) + (M2 : Nat).toInt32) ((((((0 : Int32) + (N1 : Nat).toInt32) + (M1 : Nat).toInt32) + (N2 : Nat).toInt32) + (M2 : Nat).toInt32) + (N3 : Nat).toInt32) ((((((0 : Int32) + (N1 : Nat).toInt32) + (M1 : Nat).toInt32) + (N2 : Nat).toInt32) + (M2 : Nat).toInt32) + (N3 : Nat).toInt32) (((((((0 : Int32) + (N1 : Nat).toInt32) + (M1 : Nat).toInt32) + (N2 : Nat).toInt32) + (M2 : Nat).toInt32) + (N3 : Nat).toInt32) + (M3 : Nat).toInt32)) (4 * 0) := fun z => (rr331 0 (by omega)).2 (fun y => z (ns1.mp y))
  have ne2 : ¬ (sp4 (sp4 (sp4 (fun _ => 0) 0 (0 : Int32) ((0 : Int32) + (N1 : Nat).toInt32) ((0 : Int32) + (N1 : Nat).toInt32) (((0 : Int32) + (N1 : Nat).toInt32) + (M1 : Nat).toInt32)) 1 (((0 : Int32) + (N1 : Nat).toInt32) + (M1 : Nat).toInt32) ((((0 : Int32) + (N1 : Nat).toInt32) + (M1 : Nat).toInt32) + (N2 : Nat).toInt32) ((((0 : Int32) + (N1 : Nat).toInt32) + (M1 : Nat).toInt32) + (N2 : Nat).toInt32) (((((0 : Int32) + (N1 : Nat).toInt32) + (M1 : Nat).toInt32) + (N2 : Nat).toInt32) + (M2 : Nat).toInt32)) 2 (((((0 : Int32) + (N1 : Nat).toInt32) + (M1 : Nat).toInt32) + (N2 : Nat).toInt32) + (M2 : Nat).toInt32) ((((((0 : Int32) + (N1 : Nat).toInt32) + (M1 : Nat).toInt32) + (N2 : Nat).toInt32) + (M2 : Nat).toInt32) + (N3 : Nat).toInt32) ((((((0 : Int32) + (N1 : Nat).toInt32) + (M1 : Nat).toInt32) + (N2 : Nat).toInt32) + (M2 : Nat).toInt32) + (N3 : Nat).toInt32) (((((((0 : Int32) + (N1 : Nat).toInt32) + (M1 : Nat).toInt32) + (N2 : Nat).toInt32) + (M2 : Nat).toInt32) + (N3 : Nat).toInt32) + (M3 : Nat).toInt32)) (4 * 1) = -1 := nneg (hAB 1 (by omega)).1
  have n2e : (N2 : Nat).toInt32 = t2 &&& 3 := Int32.toInt_inj.mp ((natI (by omega)).trans hN2.symm)
  have m2e : (M2 : Nat).toInt32 = x2 &&& 3 := Int32.toInt_inj.mp ((natI (by omega)).trans hM2.symm)
  have cc2 : (sp4 (sp4 (sp4 (fun _ => 0) 0 (0 : Int32) ((0 : Int32) + (N1 : Nat).toInt32) ((0 : Int32) + (N1 : Nat).toInt32) (((0 : Int32) + (N1 : Nat).toInt32) + (M1 : Nat).toInt32)) 1 (((0 : Int32) + (N1 : Nat).toInt32) + (M1 : Nat).toInt32) ((((0 : Int32) + (N1 : Nat).toInt32) + (M1 : Nat).toInt32) + (N2 : Nat).toInt32) ((((0 : Int32) + (N1 : Nat).toInt32) + (M1 : Nat).toInt32) + (N2 : Nat).toInt32) (((((0 : Int32) + (N1 : Nat).toInt32) + (M1 : Nat).toInt32) + (N2 : Nat).toInt32) + (M2 : Nat).toInt32)) 2 (((((0 : Int32) + (N1 : Nat).toInt32) + (M1 : Nat).toInt32) + (N2 : Nat).toInt32) + (M2 : Nat).toInt32) ((((((0 : Int32) + (N1 : Nat).toInt32) + (M1 : Nat).toInt32) + (N2 : Nat).toInt32) + (M2 : Nat).toInt32) + (N3 : Nat).toInt32) ((((((0 : Int32) + (N1 : Nat).toInt32) + (M1 : Nat).toInt32) + (N2 : Nat).toInt32) + (M2 : Nat).toInt32) + (N3 : Nat).toInt32) (((((((0 : Int32) + (N1 : Nat).toInt32) + (M1 : Nat).toInt32) + (N2 : Nat).toInt32) + (M2 : Nat).toInt32) + (N3 : Nat).toInt32) + (M3 : Nat).toInt32)) (4 * 1 + 1) - (sp4 (sp4 (sp4 (fun _ => 0) 0 (0 : Int32) ((0 : Int32) + (N1 : Nat).toInt32) ((0 : Int32) + (N1 : Nat).toInt32) (((0 : Int32) + (N1 : Nat).toInt32) + (M1 : Nat).toInt32)) 1 (((0 : Int32) + (N1 : Nat).toInt32) + (M1 : Nat).toInt32) ((((0 : Int32) + (N1 : Nat).toInt32) + (M1 : Nat).toInt32) + (N2 : Nat).toInt32) ((((0 : Int32) + (N1 : Nat).toInt32) + (M1 : Nat).toInt32) + (N2 : Nat).toInt32) (((((0 : Int32) + (N1 : Nat).toInt32) + (M1 : Nat).toInt32) + (N2 : Nat).toInt32) + (M2 : Nat).toInt32)) 2 (((((0 : Int32) + (N1 : Nat).toInt32) + (M1 : Nat).toInt32) + (N2 : Nat).toInt32) + (M2 : Nat).toInt32) ((((((0 : Int32) + (N1 : Nat).toInt32) + (M1 : Nat).toInt32) + (N2 : Nat).toInt32) + (M2 : Nat).toInt32) + (N3 : Nat).toInt32) ((((((0 : Int32) + (N1 : Nat).toInt32) + (M1 : Nat).toInt32) + (N2 : Nat).toInt32) + (M2 : Nat).toInt32) + (N3 : Nat).toInt32) (((((((0 : Int32) + (N1 : Nat).toInt32) + (M1 : Nat).toInt32) + (N2 : Nat).toInt32) + (M2 : Nat).toInt32) + (N3 : Nat).toInt32) + (M3 : Nat).toInt32)) (4 * 1) + 2 + (sp4 (sp4 (sp4 (fun _ => 0) 0 (0 : Int32) ((0 : Int32) + (N1 : Nat).toInt32) ((0 : Int32) + (N1 : Nat).toInt32) (((0 : Int32) + (N1 : Nat).toInt32) + (M1 : Nat).toInt32)) 1 (((0 : Int32) + (N1 : Nat).toInt32) + (M1 : Nat).toInt32) ((((0 : Int32) + (N1 : Nat).toInt32) + (M1 : Nat).toInt32) + (N2 : Nat).toInt32) ((((0 : Int32) + (N1 : Nat).toInt32) + (M1 : Nat).toInt32) + (N2 : Nat).toInt32) (((((0 : Int32) + (N1 : Nat).toInt32) + (M1 : Nat).toInt32) + (N2 : Nat).toInt32) + (M2 : Nat).toInt32)) 2 (((((0 : Int32) + (N1 : Nat).toInt32) + (M1 : Nat).toInt32) + (N2 : Nat).toInt32) + (M2 : Nat).toInt32) ((((((0 : Int32) + (N1 : Nat).toInt32) + (M1 : Nat).toInt32) + (N2 : Nat).toInt32) + (M2 : Nat).toInt32) + (N3 : Nat).toInt32) ((((((0 : Int32) + (N1 : Nat).toInt32) + (M1 : Nat).toInt32) + (N2 : Nat).toInt32) + (M2 : Nat).toInt32) + (N3 : Nat).toInt32) (((((((0 : Int32) + (N1 : Nat).toInt32) + (M1 : Nat).toInt32) + (N2 : Nat).toInt32) + (M2 : Nat).toInt32) + (N3 : Nat).toInt32) + (M3 : Nat).toInt32)) (4 * 1 + 3) - (sp4 (sp4 (sp4 (fun _ => 0) 0 (0 : Int32) ((0 : Int32) + (N1 : Nat).toInt32) ((0 : Int32) + (N1 : Nat).toInt32) (((0 : Int32) + (N1 : Nat).toInt32) + (M1 : Nat).toInt32)) 1 (((0 : Int32) + (N1 : Nat).toInt32) + (M1 : Nat).toInt32) ((((0 : Int32) + (N1 : Nat).toInt32) + (M1 : Nat).toInt32) + (N2 : Nat).toInt32) ((((0 : Int32) + (N1 : Nat).toInt32) + (M1 : Nat).toInt32) + (N2 : Nat).toInt32) (((((0 : Int32) + (N1 : Nat).toInt32) + (M1 : Nat).toInt32) + (N2 : Nat).toInt32) + (M2 : Nat).toInt32)) 2 (((((0 : Int32) + (N1 : Nat).toInt32) + (M1 : Nat).toInt32) + (N2 : Nat).toInt32) + (M2 : Nat).toInt32) ((((((0 : Int32) + (N1 : Nat).toInt32) + (M1 : Nat).toInt32) + (N2 : Nat).toInt32) + (M2 : Nat).toInt32) + (N3 : Nat).toInt32) ((((((0 : Int32) + (N1 : Nat).toInt32) + (M1 : Nat).toInt32) + (N2 : Nat).toInt32) + (M2 : Nat).toInt32) + (N3 : Nat).toInt32) (((((((0 : Int32) + (N1 : Nat).toInt32) + (M1 : Nat).toInt32) + (N2 : Nat).toInt32) + (M2 : Nat).toInt32) + (N3 : Nat).toInt32) + (M3 : Nat).toInt32)) (4 * 1 + 2) + 2 = t367 := (ring1 _ (N2 : Nat).toInt32 (M2 : Nat).toInt32).trans (by rw [n2e, m2e]; exact ht367)
  have bz2 : sz (sp4 (sp4 (sp4 (fun _ => 0) 0 (0 : Int32) ((0 : Int32) + (N1 : Nat).toInt32) ((0 : Int32) + (N1 : Nat).toInt32) (((0 : Int32) + (N1 : Nat).toInt32) + (M1 : Nat).toInt32)) 1 (((0 : Int32) + (N1 : Nat).toInt32) + (M1 : Nat).toInt32) ((((0 : Int32) + (N1 : Nat).toInt32) + (M1 : Nat).toInt32) + (N2 : Nat).toInt32) ((((0 : Int32) + (N1 : Nat).toInt32) + (M1 : Nat).toInt32) + (N2 : Nat).toInt32) (((((0 : Int32) + (N1 : Nat).toInt32) + (M1 : Nat).toInt32) + (N2 : Nat).toInt32) + (M2 : Nat).toInt32)) 2 (((((0 : Int32) + (N1 : Nat).toInt32) + (M1 : Nat).toInt32) + (N2 : Nat).toInt32) + (M2 : Nat).toInt32) ((((((0 : Int32) + (N1 : Nat).toInt32) + (M1 : Nat).toInt32) + (N2 : Nat).toInt32) + (M2 : Nat).toInt32) + (N3 : Nat).toInt32) ((((((0 : Int32) + (N1 : Nat).toInt32) + (M1 : Nat).toInt32) + (N2 : Nat).toInt32) + (M2 : Nat).toInt32) + (N3 : Nat).toInt32) (((((((0 : Int32) + (N1 : Nat).toInt32) + (M1 : Nat).toInt32) + (N2 : Nat).toInt32) + (M2 : Nat).toInt32) + (N3 : Nat).toInt32) + (M3 : Nat).toInt32)) 2 = sz (sp4 (sp4 (sp4 (fun _ => 0) 0 (0 : Int32) ((0 : Int32) + (N1 : Nat).toInt32) ((0 : Int32) + (N1 : Nat).toInt32) (((0 : Int32) + (N1 : Nat).toInt32) + (M1 : Nat).toInt32)) 1 (((0 : Int32) + (N1 : Nat).toInt32) + (M1 : Nat).toInt32) ((((0 : Int32) + (N1 : Nat).toInt32) + (M1 : Nat).toInt32) + (N2 : Nat).toInt32) ((((0 : Int32) + (N1 : Nat).toInt32) + (M1 : Nat).toInt32) + (N2 : Nat).toInt32) (((((0 : Int32) + (N1 : Nat).toInt32) + (M1 : Nat).toInt32) + (N2 : Nat).toInt32) + (M2 : Nat).toInt32)) 2 (((((0 : Int32) + (N1 : Nat).toInt32) + (M1 : Nat).toInt32) + (N2 : Nat).toInt32) + (M2 : Nat).toInt32) ((((((0 : Int32) + (N1 : Nat).toInt32) + (M1 : Nat).toInt32) + (N2 : Nat).toInt32) + (M2 : Nat).toInt32) + (N3 : Nat).toInt32) ((((((0 : Int32) + (N1 : Nat).toInt32) + (M1 : Nat).toInt32) + (N2 : Nat).toInt32) + (M2 : Nat).toInt32) + (N3 : Nat).toInt32) (((((((0 : Int32) + (N1 : Nat).toInt32) + (M1 : Nat).toInt32) + (N2 : Nat).toInt32) + (M2 : Nat).toInt32) + (N3 : Nat).toInt32) + (M3 : Nat).toInt32)) 1 + t367 := sz_in (j := 1) ne2 cc2 rfl (fun _ _ => rfl)
  have gg2 : ∀ i, i < N2 → (lay (lay (lay (lay (lay (lay (fun _ => 0) (0) N1 (ng t1)) (0 + N1) M1 gv41) (0 + N1 + M1) N2 (ng t2)) (0 + N1 + M1 + N2) M2 gv60) (0 + N1 + M1 + N2 + M2) N3 (ng t3)) (0 + N1 + M1 + N2 + M2 + N3) M3 gv83) (0 + N1 + M1 + i) = ng t2 i := fun i hi => by rw [lay_out (by omega), lay_out (by omega), lay_out (by omega), lay_in (by omega)]; congr 1; omega
  have ns2 := nm_sm (m := t4) hN2 hN4 lN2 gg2
  have ysm2 : SM t2 t4 → e331 (4 * 1) = -1 := fun z => (rr331 1 (by omega)).1 (ns2.mpr z)
  have xsm2 : ¬ SM t2 t4 → e331 (4 * 1) = (sp4 (sp4 (sp4 (fun _ => 0) 0 (0 : Int32) ((0 : Int32) + (N1 : Nat).toInt32) ((0 : Int32) + (N1 : Nat).toInt32) (((0 : Int32) + (N1 : Nat).toInt32) + (M1 : Nat).toInt32)) 1 (((0 : Int32) + (N1 : Nat).toInt32) + (M1 : Nat).toInt32) ((((0 : Int32) + (N1 : Nat).toInt32) + (M1 : Nat).toInt32) + (N2 : Nat).toInt32) ((((0 : Int32) + (N1 : Nat).toInt32) + (M1 : Nat).toInt32) + (N2 : Nat).toInt32) (((((0 : Int32) + (N1 : Nat).toInt32) + (M1 : Nat).toInt32) + (N2 : Nat).toInt32) + (M2 : Nat).toInt32)) 2 (((((0 : Int32) + (N1 : Nat).toInt32) + (M1 : Nat).toInt32) + (N2 : Nat).toInt32) + (M2 : Nat).toInt32) ((((((0 : Int32) + (N1 : Nat).toInt32) + (M1 : Nat).toInt32) + (N2 : Nat).toInt32) + (M2 : Nat).toInt32) + (N3 : Nat).toInt32) ((((((0 : Int32) + (N1 : Nat).toInt32) + (M1 : Nat).toInt32) + (N2 : Nat).toInt32) + (M2 : Nat).toInt32) + (N3 : Nat).toInt32) (((((((0 : Int32) + (N1 : Nat).toInt32) + (M1 : Nat).toInt32) + (N2 : Nat).toInt32) + (M2 : Nat).toInt32) + (N3 : Nat).toInt32) + (M3 : Nat).toInt32)) (4 * 1) := fun z => (rr331 1 (by omega)).2 (fun y => z (ns2.mp y))
  have ne3 : ¬ (sp4 (sp4 (sp4 (fun _ => 0) 0 (0 : Int32) ((0 : Int32) + (N1 : Nat).toInt32) ((0 : Int32) + (N1 : Nat).toInt32) (((0 : Int32) + (N1 : Nat).toInt32) + (M1 : Nat).toInt32)) 1 (((0 : Int32) + (N1 : Nat).toInt32) + (M1 : Nat).toInt32) ((((0 : Int32) + (N1 : Nat).toInt32) + (M1 : Nat).toInt32) + (N2 : Nat).toInt32) ((((0 : Int32) + (N1 : Nat).toInt32) + (M1 : Nat).toInt32) + (N2 : Nat).toInt32) (((((0 : Int32) + (N1 : Nat).toInt32) + (M1 : Nat).toInt32) + (N2 : Nat).toInt32) + (M2 : Nat).toInt32)) 2 (((((0 : Int32) + (N1 : Nat).toInt32) + (M1 : Nat).toInt32) + (N2 : Nat).toInt32) + (M2 : Nat).toInt32) ((((((0 : Int32) + (N1 : Nat).toInt32) + (M1 : Nat).toInt32) + (N2 : Nat).toInt32) + (M2 : Nat).toInt32) + (N3 : Nat).toInt32) ((((((0 : Int32) + (N1 : Nat).toInt32) + (M1 : Nat).toInt32) + (N2 : Nat).toInt32) + (M2 : Nat).toInt32) + (N3 : Nat).toInt32) (((((((0 : Int32) + (N1 : Nat).toInt32) + (M1 : Nat).toInt32) + (N2 : Nat).toInt32) + (M2 : Nat).toInt32) + (N3 : Nat).toInt32) + (M3 : Nat).toInt32)) (4 * 2) = -1 := nneg (hAB 2 (by omega)).1
  have n3e : (N3 : Nat).toInt32 = t3 &&& 3 := Int32.toInt_inj.mp ((natI (by omega)).trans hN3.symm)
  have m3e : (M3 : Nat).toInt32 = x3 &&& 3 := Int32.toInt_inj.mp ((natI (by omega)).trans hM3.symm)
  have cc3 : (sp4 (sp4 (sp4 (fun _ => 0) 0 (0 : Int32) ((0 : Int32) + (N1 : Nat).toInt32) ((0 : Int32) + (N1 : Nat).toInt32) (((0 : Int32) + (N1 : Nat).toInt32) + (M1 : Nat).toInt32)) 1 (((0 : Int32) + (N1 : Nat).toInt32) + (M1 : Nat).toInt32) ((((0 : Int32) + (N1 : Nat).toInt32) + (M1 : Nat).toInt32) + (N2 : Nat).toInt32) ((((0 : Int32) + (N1 : Nat).toInt32) + (M1 : Nat).toInt32) + (N2 : Nat).toInt32) (((((0 : Int32) + (N1 : Nat).toInt32) + (M1 : Nat).toInt32) + (N2 : Nat).toInt32) + (M2 : Nat).toInt32)) 2 (((((0 : Int32) + (N1 : Nat).toInt32) + (M1 : Nat).toInt32) + (N2 : Nat).toInt32) + (M2 : Nat).toInt32) ((((((0 : Int32) + (N1 : Nat).toInt32) + (M1 : Nat).toInt32) + (N2 : Nat).toInt32) + (M2 : Nat).toInt32) + (N3 : Nat).toInt32) ((((((0 : Int32) + (N1 : Nat).toInt32) + (M1 : Nat).toInt32) + (N2 : Nat).toInt32) + (M2 : Nat).toInt32) + (N3 : Nat).toInt32) (((((((0 : Int32) + (N1 : Nat).toInt32) + (M1 : Nat).toInt32) + (N2 : Nat).toInt32) + (M2 : Nat).toInt32) + (N3 : Nat).toInt32) + (M3 : Nat).toInt32)) (4 * 2 + 1) - (sp4 (sp4 (sp4 (fun _ => 0) 0 (0 : Int32) ((0 : Int32) + (N1 : Nat).toInt32) ((0 : Int32) + (N1 : Nat).toInt32) (((0 : Int32) + (N1 : Nat).toInt32) + (M1 : Nat).toInt32)) 1 (((0 : Int32) + (N1 : Nat).toInt32) + (M1 : Nat).toInt32) ((((0 : Int32) + (N1 : Nat).toInt32) + (M1 : Nat).toInt32) + (N2 : Nat).toInt32) ((((0 : Int32) + (N1 : Nat).toInt32) + (M1 : Nat).toInt32) + (N2 : Nat).toInt32) (((((0 : Int32) + (N1 : Nat).toInt32) + (M1 : Nat).toInt32) + (N2 : Nat).toInt32) + (M2 : Nat).toInt32)) 2 (((((0 : Int32) + (N1 : Nat).toInt32) + (M1 : Nat).toInt32) + (N2 : Nat).toInt32) + (M2 : Nat).toInt32) ((((((0 : Int32) + (N1 : Nat).toInt32) + (M1 : Nat).toInt32) + (N2 : Nat).toInt32) + (M2 : Nat).toInt32) + (N3 : Nat).toInt32) ((((((0 : Int32) + (N1 : Nat).toInt32) + (M1 : Nat).toInt32) + (N2 : Nat).toInt32) + (M2 : Nat).toInt32) + (N3 : Nat).toInt32) (((((((0 : Int32) + (N1 : Nat).toInt32) + (M1 : Nat).toInt32) + (N2 : Nat).toInt32) + (M2 : Nat).toInt32) + (N3 : Nat).toInt32) + (M3 : Nat).toInt32)) (4 * 2) + 2 + (sp4 (sp4 (sp4 (fun _ => 0) 0 (0 : Int32) ((0 : Int32) + (N1 : Nat).toInt32) ((0 : Int32) + (N1 : Nat).toInt32) (((0 : Int32) + (N1 : Nat).toInt32) + (M1 : Nat).toInt32)) 1 (((0 : Int32) + (N1 : Nat).toInt32) + (M1 : Nat).toInt32) ((((0 : Int32) + (N1 : Nat).toInt32) + (M1 : Nat).toInt32) + (N2 : Nat).toInt32) ((((0 : Int32) + (N1 : Nat).toInt32) + (M1 : Nat).toInt32) + (N2 : Nat).toInt32) (((((0 : Int32) + (N1 : Nat).toInt32) + (M1 : Nat).toInt32) + (N2 : Nat).toInt32) + (M2 : Nat).toInt32)) 2 (((((0 : Int32) + (N1 : Nat).toInt32) + (M1 : Nat).toInt32) + (N2 : Nat).toInt32) + (M2 : Nat).toInt32) ((((((0 : Int32) + (N1 : Nat).toInt32) + (M1 : Nat).toInt32) + (N2 : Nat).toInt32) + (M2 : Nat).toInt32) + (N3 : Nat).toInt32) ((((((0 : Int32) + (N1 : Nat).toInt32) + (M1 : Nat).toInt32) + (N2 : Nat).toInt32) + (M2 : Nat).toInt32) + (N3 : Nat).toInt32) (((((((0 : Int32) + (N1 : Nat).toInt32) + (M1 : Nat).toInt32) + (N2 : Nat).toInt32) + (M2 : Nat).toInt32) + (N3 : Nat).toInt32) + (M3 : Nat).toInt32)) (4 * 2 + 3) - (sp4 (sp4 (sp4 (fun _ => 0) 0 (0 : Int32) ((0 : Int32) + (N1 : Nat).toInt32) ((0 : Int32) + (N1 : Nat).toInt32) (((0 : Int32) + (N1 : Nat).toInt32) + (M1 : Nat).toInt32)) 1 (((0 : Int32) + (N1 : Nat).toInt32) + (M1 : Nat).toInt32) ((((0 : Int32) + (N1 : Nat).toInt32) + (M1 : Nat).toInt32) + (N2 : Nat).toInt32) ((((0 : Int32) + (N1 : Nat).toInt32) + (M1 : Nat).toInt32) + (N2 : Nat).toInt32) (((((0 : Int32) + (N1 : Nat).toInt32) + (M1 : Nat).toInt32) + (N2 : Nat).toInt32) + (M2 : Nat).toInt32)) 2 (((((0 : Int32) + (N1 : Nat).toInt32) + (M1 : Nat).toInt32) + (N2 : Nat).toInt32) + (M2 : Nat).toInt32) ((((((0 : Int32) + (N1 : Nat).toInt32) + (M1 : Nat).toInt32) + (N2 : Nat).toInt32) + (M2 : Nat).toInt32) + (N3 : Nat).toInt32) ((((((0 : Int32) + (N1 : Nat).toInt32) + (M1 : Nat).toInt32) + (N2 : Nat).toInt32) + (M2 : Nat).toInt32) + (N3 : Nat).toInt32) (((((((0 : Int32) + (N1 : Nat).toInt32) + (M1 : Nat).toInt32) + (N2 : Nat).toInt32) + (M2 : Nat).toInt32) + (N3 : Nat).toInt32) + (M3 : Nat).toInt32)) (4 * 2 + 2) + 2 = t368 := (ring1 _ (N3 : Nat).toInt32 (M3 : Nat).toInt32).trans (by rw [n3e, m3e]; exact ht368)
  have bz3 : sz (sp4 (sp4 (sp4 (fun _ => 0) 0 (0 : Int32) ((0 : Int32) + (N1 : Nat).toInt32) ((0 : Int32) + (N1 : Nat).toInt32) (((0 : Int32) + (N1 : Nat).toInt32) + (M1 : Nat).toInt32)) 1 (((0 : Int32) + (N1 : Nat).toInt32) + (M1 : Nat).toInt32) ((((0 : Int32) + (N1 : Nat).toInt32) + (M1 : Nat).toInt32) + (N2 : Nat).toInt32) ((((0 : Int32) + (N1 : Nat).toInt32) + (M1 : Nat).toInt32) + (N2 : Nat).toInt32) (((((0 : Int32) + (N1 : Nat).toInt32) + (M1 : Nat).toInt32) + (N2 : Nat).toInt32) + (M2 : Nat).toInt32)) 2 (((((0 : Int32) + (N1 : Nat).toInt32) + (M1 : Nat).toInt32) + (N2 : Nat).toInt32) + (M2 : Nat).toInt32) ((((((0 : Int32) + (N1 : Nat).toInt32) + (M1 : Nat).toInt32) + (N2 : Nat).toInt32) + (M2 : Nat).toInt32) + (N3 : Nat).toInt32) ((((((0 : Int32) + (N1 : Nat).toInt32) + (M1 : Nat).toInt32) + (N2 : Nat).toInt32) + (M2 : Nat).toInt32) + (N3 : Nat).toInt32) (((((((0 : Int32) + (N1 : Nat).toInt32) + (M1 : Nat).toInt32) + (N2 : Nat).toInt32) + (M2 : Nat).toInt32) + (N3 : Nat).toInt32) + (M3 : Nat).toInt32)) 3 = sz (sp4 (sp4 (sp4 (fun _ => 0) 0 (0 : Int32) ((0 : Int32) + (N1 : Nat).toInt32) ((0 : Int32) + (N1 : Nat).toInt32) (((0 : Int32) + (N1 : Nat).toInt32) + (M1 : Nat).toInt32)) 1 (((0 : Int32) + (N1 : Nat).toInt32) + (M1 : Nat).toInt32) ((((0 : Int32) + (N1 : Nat).toInt32) + (M1 : Nat).toInt32) + (N2 : Nat).toInt32) ((((0 : Int32) + (N1 : Nat).toInt32) + (M1 : Nat).toInt32) + (N2 : Nat).toInt32) (((((0 : Int32) + (N1 : Nat).toInt32) + (M1 : Nat).toInt32) + (N2 : Nat).toInt32) + (M2 : Nat).toInt32)) 2 (((((0 : Int32) + (N1 : Nat).toInt32) + (M1 : Nat).toInt32) + (N2 : Nat).toInt32) + (M2 : Nat).toInt32) ((((((0 : Int32) + (N1 : Nat).toInt32) + (M1 : Nat).toInt32) + (N2 : Nat).toInt32) + (M2 : Nat).toInt32) + (N3 : Nat).toInt32) ((((((0 : Int32) + (N1 : Nat).toInt32) + (M1 : Nat).toInt32) + (N2 : Nat).toInt32) + (M2 : Nat).toInt32) + (N3 : Nat).toInt32) (((((((0 : Int32) + (N1 : Nat).toInt32) + (M1 : Nat).toInt32) + (N2 : Nat).toInt32) + (M2 : Nat).toInt32) + (N3 : Nat).toInt32) + (M3 : Nat).toInt32)) 2 + t368 := sz_in (j := 2) ne3 cc3 rfl (fun _ _ => rfl)
  have gg3 : ∀ i, i < N3 → (lay (lay (lay (lay (lay (lay (fun _ => 0) (0) N1 (ng t1)) (0 + N1) M1 gv41) (0 + N1 + M1) N2 (ng t2)) (0 + N1 + M1 + N2) M2 gv60) (0 + N1 + M1 + N2 + M2) N3 (ng t3)) (0 + N1 + M1 + N2 + M2 + N3) M3 gv83) (0 + N1 + M1 + N2 + M2 + i) = ng t3 i := fun i hi => by rw [lay_out (by omega), lay_in (by omega)]; congr 1; omega
  have ns3 := nm_sm (m := t4) hN3 hN4 lN3 gg3
  have ysm3 : SM t3 t4 → e331 (4 * 2) = -1 := fun z => (rr331 2 (by omega)).1 (ns3.mpr z)
  have xsm3 : ¬ SM t3 t4 → e331 (4 * 2) = (sp4 (sp4 (sp4 (fun _ => 0) 0 (0 : Int32) ((0 : Int32) + (N1 : Nat).toInt32) ((0 : Int32) + (N1 : Nat).toInt32) (((0 : Int32) + (N1 : Nat).toInt32) + (M1 : Nat).toInt32)) 1 (((0 : Int32) + (N1 : Nat).toInt32) + (M1 : Nat).toInt32) ((((0 : Int32) + (N1 : Nat).toInt32) + (M1 : Nat).toInt32) + (N2 : Nat).toInt32) ((((0 : Int32) + (N1 : Nat).toInt32) + (M1 : Nat).toInt32) + (N2 : Nat).toInt32) (((((0 : Int32) + (N1 : Nat).toInt32) + (M1 : Nat).toInt32) + (N2 : Nat).toInt32) + (M2 : Nat).toInt32)) 2 (((((0 : Int32) + (N1 : Nat).toInt32) + (M1 : Nat).toInt32) + (N2 : Nat).toInt32) + (M2 : Nat).toInt32) ((((((0 : Int32) + (N1 : Nat).toInt32) + (M1 : Nat).toInt32) + (N2 : Nat).toInt32) + (M2 : Nat).toInt32) + (N3 : Nat).toInt32) ((((((0 : Int32) + (N1 : Nat).toInt32) + (M1 : Nat).toInt32) + (N2 : Nat).toInt32) + (M2 : Nat).toInt32) + (N3 : Nat).toInt32) (((((((0 : Int32) + (N1 : Nat).toInt32) + (M1 : Nat).toInt32) + (N2 : Nat).toInt32) + (M2 : Nat).toInt32) + (N3 : Nat).toInt32) + (M3 : Nat).toInt32)) (4 * 2) := fun z => (rr331 2 (by omega)).2 (fun y => z (ns3.mp y))
  have bef : t330 = t369 := by rw [← ht330, bz3, bz2, bz1]; exact ht369
  refine WP.iload (pc' := 200) at_198 rfl rfl ?_
  refine WP.iload (pc' := 202) at_200 rfl rfl ?_
  refine WP.callS (argsL := [(.int t1), (.int t4)]) (rest := []) (wd := 0) (cl' := 45) (sl' := 667) (pc' := 205) at_202 rfl (wd148 hw) (wd149 hw) (wd2 hw) (wd150 hw) (by decide) (m_same hw t1 t4 h331 n0) pd_20 rfl rfl rfl (Nat.le_of_eq rfl) (by decide) (by decide) rfl rfl (by decide) (by decide) ?_
  rintro v hh370 ⟨⟨rfl, qs370⟩ | ⟨rfl, qs370⟩, he370⟩ <;> rw [he370]
  · skip
    refine WP.castS (st' := [(.int (1 : Int32))]) rfl ?_
    have hc205 : ¬ (1 : Int32) = (0 : Int32) := by decide
    refine WP.ifc_eq (pc1 := 215) (pc2 := 208) at_205 (by decide) (by decide) rfl (fun k => absurd k hc205) (fun _ => ?_)
    refine WP.iload (pc' := 210) at_208 rfl rfl ?_
    refine WP.iload (pc' := 212) at_210 rfl rfl ?_
    refine WP.isub (pc' := 213) at_212 rfl ?_
    generalize ht371 : (t369 - t366) = t371
    refine WP.istore (pc' := 215) at_213 rfl (Ls' := #[.val (.int x0), .val (.int x1), .val (.int x2), .val (.int x3), .val (.int x4), .val (.int t1), .val (.int t2), .val (.int t3), .val (.int t4), .val (.ref s5), .val (.ref s8), .val (.ref s15), .val (.ref s26), .val (.ref s41), .val (.ref s60), .val (.ref s83), .val (.ref b110), .val (.int t229), .val (.int t330), .val (.int t365), .val (.int t366), .val (.int t367), .val (.int t368), .val (.int t369), .val (.int t371)]) rfl ?_
    refine WP.iload (pc' := 217) at_215 rfl rfl ?_
    refine WP.iload (pc' := 219) at_217 rfl rfl ?_
    refine WP.callS (argsL := [(.int t2), (.int t4)]) (rest := []) (wd := 0) (cl' := 45) (sl' := 667) (pc' := 222) at_219 rfl (wd148 hw) (wd149 hw) (wd2 hw) (wd150 hw) (by decide) (m_same hw t2 t4 h331 n0) pd_20 rfl rfl rfl (Nat.le_of_eq rfl) (by decide) (by decide) rfl rfl (by decide) (by decide) ?_
    rintro v hh372 ⟨⟨rfl, qs372⟩ | ⟨rfl, qs372⟩, he372⟩ <;> rw [he372]
    · skip
      refine WP.castS (st' := [(.int (1 : Int32))]) rfl ?_
      have hc222 : ¬ (1 : Int32) = (0 : Int32) := by decide
      refine WP.ifc_eq (pc1 := 232) (pc2 := 225) at_222 (by decide) (by decide) rfl (fun k => absurd k hc222) (fun _ => ?_)
      refine WP.iload (pc' := 227) at_225 rfl rfl ?_
      refine WP.iload (pc' := 229) at_227 rfl rfl ?_
      refine WP.isub (pc' := 230) at_229 rfl ?_
      generalize ht373 : (t371 - t367) = t373
      refine WP.istore (pc' := 232) at_230 rfl (Ls' := #[.val (.int x0), .val (.int x1), .val (.int x2), .val (.int x3), .val (.int x4), .val (.int t1), .val (.int t2), .val (.int t3), .val (.int t4), .val (.ref s5), .val (.ref s8), .val (.ref s15), .val (.ref s26), .val (.ref s41), .val (.ref s60), .val (.ref s83), .val (.ref b110), .val (.int t229), .val (.int t330), .val (.int t365), .val (.int t366), .val (.int t367), .val (.int t368), .val (.int t369), .val (.int t373)]) rfl ?_
      refine WP.iload (pc' := 234) at_232 rfl rfl ?_
      refine WP.iload (pc' := 236) at_234 rfl rfl ?_
      refine WP.callS (argsL := [(.int t3), (.int t4)]) (rest := []) (wd := 0) (cl' := 45) (sl' := 667) (pc' := 239) at_236 rfl (wd148 hw) (wd149 hw) (wd2 hw) (wd150 hw) (by decide) (m_same hw t3 t4 h331 n0) pd_20 rfl rfl rfl (Nat.le_of_eq rfl) (by decide) (by decide) rfl rfl (by decide) (by decide) ?_
      rintro v hh374 ⟨⟨rfl, qs374⟩ | ⟨rfl, qs374⟩, he374⟩ <;> rw [he374]
      · skip
        refine WP.castS (st' := [(.int (1 : Int32))]) rfl ?_
        have hc239 : ¬ (1 : Int32) = (0 : Int32) := by decide
        refine WP.ifc_eq (pc1 := 249) (pc2 := 242) at_239 (by decide) (by decide) rfl (fun k => absurd k hc239) (fun _ => ?_)
        refine WP.iload (pc' := 244) at_242 rfl rfl ?_
        refine WP.iload (pc' := 246) at_244 rfl rfl ?_
        refine WP.isub (pc' := 247) at_246 rfl ?_
        generalize ht375 : (t373 - t368) = t375
        refine WP.istore (pc' := 249) at_247 rfl (Ls' := #[.val (.int x0), .val (.int x1), .val (.int x2), .val (.int x3), .val (.int x4), .val (.int t1), .val (.int t2), .val (.int t3), .val (.int t4), .val (.ref s5), .val (.ref s8), .val (.ref s15), .val (.ref s26), .val (.ref s41), .val (.ref s60), .val (.ref s83), .val (.ref b110), .val (.int t229), .val (.int t330), .val (.int t365), .val (.int t366), .val (.int t367), .val (.int t368), .val (.int t369), .val (.int t375)]) rfl ?_
        have az1 : sz e331 1 = sz e331 0 := (sz_y (k := 0) (ysm1 qs370)).symm
        have az2 : sz e331 2 = sz e331 1 := (sz_y (k := 1) (ysm2 qs372)).symm
        have az3 : sz e331 3 = sz e331 2 := (sz_y (k := 2) (ysm3 qs374)).symm
        have aft : t365 = t375 := by rw [← ht365, az3, az2, az1, ← ht375, ← ht373, ← ht371, ← ht369]; exact ringABC t366 t367 t368
        refine WP.iload (pc' := 251) at_249 rfl rfl ?_
        refine WP.bipush (pc' := 253) at_251 rfl (z := 17) rfl ?_
        have hc253 : t229 = (17 : Int32) := ht229.symm.trans rfl
        refine WP.icmp_ne (pc1 := 274) (pc2 := 256) at_253 (by decide) (by decide) rfl (fun k => absurd hc253 k) (fun _ => ?_)
        refine WP.iload (pc' := 258) at_256 rfl rfl ?_
        refine WP.iload (pc' := 260) at_258 rfl rfl ?_
        have hc260 : t330 = t369 := bef
        refine WP.icmp_ne (pc1 := 274) (pc2 := 263) at_260 (by decide) (by decide) rfl (fun k => absurd hc260 k) (fun _ => ?_)
        refine WP.iload (pc' := 265) at_263 rfl rfl ?_
        refine WP.iload (pc' := 267) at_265 rfl rfl ?_
        have hc267 : t365 = t375 := aft
        refine WP.icmp_ne (pc1 := 274) (pc2 := 270) at_267 (by decide) (by decide) rfl (fun k => absurd hc267 k) (fun _ => ?_)
        refine WP.iconst (pc' := 271) at_270 rfl (z := 1) rfl ?_
        refine WP.goto (pc' := 275) at_271 (by decide) (by decide) ?_
        refine WP.nretW (t := .boolean) at_275 rfl (by simp) rfl sn362 (by decide) (by decide) rfl
      · skip
        refine WP.castS (st' := [(.int (0 : Int32))]) rfl ?_
        have hc239 : (0 : Int32) = (0 : Int32) := by decide
        refine WP.ifc_eq (pc1 := 249) (pc2 := 242) at_239 (by decide) (by decide) rfl (fun _ => ?_) (fun k => absurd hc239 k)
        have az1 : sz e331 1 = sz e331 0 := (sz_y (k := 0) (ysm1 qs370)).symm
        have az2 : sz e331 2 = sz e331 1 := (sz_y (k := 1) (ysm2 qs372)).symm
        have az3 : sz e331 3 = sz e331 2 + t368 := sz_in (j := 2) ne3 cc3 (xsm3 qs374) of331
        have aft : t365 = t373 := by rw [← ht365, az3, az2, az1, ← ht373, ← ht371, ← ht369]; exact ringAB t366 t367 t368
        refine WP.iload (pc' := 251) at_249 rfl rfl ?_
        refine WP.bipush (pc' := 253) at_251 rfl (z := 17) rfl ?_
        have hc253 : t229 = (17 : Int32) := ht229.symm.trans rfl
        refine WP.icmp_ne (pc1 := 274) (pc2 := 256) at_253 (by decide) (by decide) rfl (fun k => absurd hc253 k) (fun _ => ?_)
        refine WP.iload (pc' := 258) at_256 rfl rfl ?_
        refine WP.iload (pc' := 260) at_258 rfl rfl ?_
        have hc260 : t330 = t369 := bef
        refine WP.icmp_ne (pc1 := 274) (pc2 := 263) at_260 (by decide) (by decide) rfl (fun k => absurd hc260 k) (fun _ => ?_)
        refine WP.iload (pc' := 265) at_263 rfl rfl ?_
        refine WP.iload (pc' := 267) at_265 rfl rfl ?_
        have hc267 : t365 = t373 := aft
        refine WP.icmp_ne (pc1 := 274) (pc2 := 270) at_267 (by decide) (by decide) rfl (fun k => absurd hc267 k) (fun _ => ?_)
        refine WP.iconst (pc' := 271) at_270 rfl (z := 1) rfl ?_
        refine WP.goto (pc' := 275) at_271 (by decide) (by decide) ?_
        refine WP.nretW (t := .boolean) at_275 rfl (by simp) rfl sn362 (by decide) (by decide) rfl
    · skip
      refine WP.castS (st' := [(.int (0 : Int32))]) rfl ?_
      have hc222 : (0 : Int32) = (0 : Int32) := by decide
      refine WP.ifc_eq (pc1 := 232) (pc2 := 225) at_222 (by decide) (by decide) rfl (fun _ => ?_) (fun k => absurd hc222 k)
      refine WP.iload (pc' := 234) at_232 rfl rfl ?_
      refine WP.iload (pc' := 236) at_234 rfl rfl ?_
      refine WP.callS (argsL := [(.int t3), (.int t4)]) (rest := []) (wd := 0) (cl' := 45) (sl' := 667) (pc' := 239) at_236 rfl (wd148 hw) (wd149 hw) (wd2 hw) (wd150 hw) (by decide) (m_same hw t3 t4 h331 n0) pd_20 rfl rfl rfl (Nat.le_of_eq rfl) (by decide) (by decide) rfl rfl (by decide) (by decide) ?_
      rintro v hh376 ⟨⟨rfl, qs376⟩ | ⟨rfl, qs376⟩, he376⟩ <;> rw [he376]
      · skip
        refine WP.castS (st' := [(.int (1 : Int32))]) rfl ?_
        have hc239 : ¬ (1 : Int32) = (0 : Int32) := by decide
        refine WP.ifc_eq (pc1 := 249) (pc2 := 242) at_239 (by decide) (by decide) rfl (fun k => absurd k hc239) (fun _ => ?_)
        refine WP.iload (pc' := 244) at_242 rfl rfl ?_
        refine WP.iload (pc' := 246) at_244 rfl rfl ?_
        refine WP.isub (pc' := 247) at_246 rfl ?_
        generalize ht377 : (t371 - t368) = t377
        refine WP.istore (pc' := 249) at_247 rfl (Ls' := #[.val (.int x0), .val (.int x1), .val (.int x2), .val (.int x3), .val (.int x4), .val (.int t1), .val (.int t2), .val (.int t3), .val (.int t4), .val (.ref s5), .val (.ref s8), .val (.ref s15), .val (.ref s26), .val (.ref s41), .val (.ref s60), .val (.ref s83), .val (.ref b110), .val (.int t229), .val (.int t330), .val (.int t365), .val (.int t366), .val (.int t367), .val (.int t368), .val (.int t369), .val (.int t377)]) rfl ?_
        have az1 : sz e331 1 = sz e331 0 := (sz_y (k := 0) (ysm1 qs370)).symm
        have az2 : sz e331 2 = sz e331 1 + t367 := sz_in (j := 1) ne2 cc2 (xsm2 qs372) of331
        have az3 : sz e331 3 = sz e331 2 := (sz_y (k := 2) (ysm3 qs376)).symm
        have aft : t365 = t377 := by rw [← ht365, az3, az2, az1, ← ht377, ← ht371, ← ht369]; exact ringAC t366 t367 t368
        refine WP.iload (pc' := 251) at_249 rfl rfl ?_
        refine WP.bipush (pc' := 253) at_251 rfl (z := 17) rfl ?_
        have hc253 : t229 = (17 : Int32) := ht229.symm.trans rfl
        refine WP.icmp_ne (pc1 := 274) (pc2 := 256) at_253 (by decide) (by decide) rfl (fun k => absurd hc253 k) (fun _ => ?_)
        refine WP.iload (pc' := 258) at_256 rfl rfl ?_
        refine WP.iload (pc' := 260) at_258 rfl rfl ?_
        have hc260 : t330 = t369 := bef
        refine WP.icmp_ne (pc1 := 274) (pc2 := 263) at_260 (by decide) (by decide) rfl (fun k => absurd hc260 k) (fun _ => ?_)
        refine WP.iload (pc' := 265) at_263 rfl rfl ?_
        refine WP.iload (pc' := 267) at_265 rfl rfl ?_
        have hc267 : t365 = t377 := aft
        refine WP.icmp_ne (pc1 := 274) (pc2 := 270) at_267 (by decide) (by decide) rfl (fun k => absurd hc267 k) (fun _ => ?_)
        refine WP.iconst (pc' := 271) at_270 rfl (z := 1) rfl ?_
        refine WP.goto (pc' := 275) at_271 (by decide) (by decide) ?_
        refine WP.nretW (t := .boolean) at_275 rfl (by simp) rfl sn362 (by decide) (by decide) rfl
      · skip
        refine WP.castS (st' := [(.int (0 : Int32))]) rfl ?_
        have hc239 : (0 : Int32) = (0 : Int32) := by decide
        refine WP.ifc_eq (pc1 := 249) (pc2 := 242) at_239 (by decide) (by decide) rfl (fun _ => ?_) (fun k => absurd hc239 k)
        have az1 : sz e331 1 = sz e331 0 := (sz_y (k := 0) (ysm1 qs370)).symm
        have az2 : sz e331 2 = sz e331 1 + t367 := sz_in (j := 1) ne2 cc2 (xsm2 qs372) of331
        have az3 : sz e331 3 = sz e331 2 + t368 := sz_in (j := 2) ne3 cc3 (xsm3 qs376) of331
        have aft : t365 = t371 := by rw [← ht365, az3, az2, az1, ← ht371, ← ht369]; exact ringA t366 t367 t368
        refine WP.iload (pc' := 251) at_249 rfl rfl ?_
        refine WP.bipush (pc' := 253) at_251 rfl (z := 17) rfl ?_
        have hc253 : t229 = (17 : Int32) := ht229.symm.trans rfl
        refine WP.icmp_ne (pc1 := 274) (pc2 := 256) at_253 (by decide) (by decide) rfl (fun k => absurd hc253 k) (fun _ => ?_)
        refine WP.iload (pc' := 258) at_256 rfl rfl ?_
        refine WP.iload (pc' := 260) at_258 rfl rfl ?_
        have hc260 : t330 = t369 := bef
        refine WP.icmp_ne (pc1 := 274) (pc2 := 263) at_260 (by decide) (by decide) rfl (fun k => absurd hc260 k) (fun _ => ?_)
        refine WP.iload (pc' := 265) at_263 rfl rfl ?_
        refine WP.iload (pc' := 267) at_265 rfl rfl ?_
        have hc267 : t365 = t371 := aft
        refine WP.icmp_ne (pc1 := 274) (pc2 := 270) at_267 (by decide) (by decide) rfl (fun k => absurd hc267 k) (fun _ => ?_)
        refine WP.iconst (pc' := 271) at_270 rfl (z := 1) rfl ?_
        refine WP.goto (pc' := 275) at_271 (by decide) (by decide) ?_
        refine WP.nretW (t := .boolean) at_275 rfl (by simp) rfl sn362 (by decide) (by decide) rfl
  · skip
    refine WP.castS (st' := [(.int (0 : Int32))]) rfl ?_
    have hc205 : (0 : Int32) = (0 : Int32) := by decide
    refine WP.ifc_eq (pc1 := 215) (pc2 := 208) at_205 (by decide) (by decide) rfl (fun _ => ?_) (fun k => absurd hc205 k)
    refine WP.iload (pc' := 217) at_215 rfl rfl ?_
    refine WP.iload (pc' := 219) at_217 rfl rfl ?_
    refine WP.callS (argsL := [(.int t2), (.int t4)]) (rest := []) (wd := 0) (cl' := 45) (sl' := 667) (pc' := 222) at_219 rfl (wd148 hw) (wd149 hw) (wd2 hw) (wd150 hw) (by decide) (m_same hw t2 t4 h331 n0) pd_20 rfl rfl rfl (Nat.le_of_eq rfl) (by decide) (by decide) rfl rfl (by decide) (by decide) ?_
    rintro v hh378 ⟨⟨rfl, qs378⟩ | ⟨rfl, qs378⟩, he378⟩ <;> rw [he378]
    · skip
      refine WP.castS (st' := [(.int (1 : Int32))]) rfl ?_
      have hc222 : ¬ (1 : Int32) = (0 : Int32) := by decide
      refine WP.ifc_eq (pc1 := 232) (pc2 := 225) at_222 (by decide) (by decide) rfl (fun k => absurd k hc222) (fun _ => ?_)
      refine WP.iload (pc' := 227) at_225 rfl rfl ?_
      refine WP.iload (pc' := 229) at_227 rfl rfl ?_
      refine WP.isub (pc' := 230) at_229 rfl ?_
      generalize ht379 : (t369 - t367) = t379
      refine WP.istore (pc' := 232) at_230 rfl (Ls' := #[.val (.int x0), .val (.int x1), .val (.int x2), .val (.int x3), .val (.int x4), .val (.int t1), .val (.int t2), .val (.int t3), .val (.int t4), .val (.ref s5), .val (.ref s8), .val (.ref s15), .val (.ref s26), .val (.ref s41), .val (.ref s60), .val (.ref s83), .val (.ref b110), .val (.int t229), .val (.int t330), .val (.int t365), .val (.int t366), .val (.int t367), .val (.int t368), .val (.int t369), .val (.int t379)]) rfl ?_
      refine WP.iload (pc' := 234) at_232 rfl rfl ?_
      refine WP.iload (pc' := 236) at_234 rfl rfl ?_
      refine WP.callS (argsL := [(.int t3), (.int t4)]) (rest := []) (wd := 0) (cl' := 45) (sl' := 667) (pc' := 239) at_236 rfl (wd148 hw) (wd149 hw) (wd2 hw) (wd150 hw) (by decide) (m_same hw t3 t4 h331 n0) pd_20 rfl rfl rfl (Nat.le_of_eq rfl) (by decide) (by decide) rfl rfl (by decide) (by decide) ?_
      rintro v hh380 ⟨⟨rfl, qs380⟩ | ⟨rfl, qs380⟩, he380⟩ <;> rw [he380]
      · skip
        refine WP.castS (st' := [(.int (1 : Int32))]) rfl ?_
        have hc239 : ¬ (1 : Int32) = (0 : Int32) := by decide
        refine WP.ifc_eq (pc1 := 249) (pc2 := 242) at_239 (by decide) (by decide) rfl (fun k => absurd k hc239) (fun _ => ?_)
        refine WP.iload (pc' := 244) at_242 rfl rfl ?_
        refine WP.iload (pc' := 246) at_244 rfl rfl ?_
        refine WP.isub (pc' := 247) at_246 rfl ?_
        generalize ht381 : (t379 - t368) = t381
        refine WP.istore (pc' := 249) at_247 rfl (Ls' := #[.val (.int x0), .val (.int x1), .val (.int x2), .val (.int x3), .val (.int x4), .val (.int t1), .val (.int t2), .val (.int t3), .val (.int t4), .val (.ref s5), .val (.ref s8), .val (.ref s15), .val (.ref s26), .val (.ref s41), .val (.ref s60), .val (.ref s83), .val (.ref b110), .val (.int t229), .val (.int t330), .val (.int t365), .val (.int t366), .val (.int t367), .val (.int t368), .val (.int t369), .val (.int t381)]) rfl ?_
        have az1 : sz e331 1 = sz e331 0 + t366 := sz_in (j := 0) ne1 cc1 (xsm1 qs370) of331
        have az2 : sz e331 2 = sz e331 1 := (sz_y (k := 1) (ysm2 qs378)).symm
        have az3 : sz e331 3 = sz e331 2 := (sz_y (k := 2) (ysm3 qs380)).symm
        have aft : t365 = t381 := by rw [← ht365, az3, az2, az1, ← ht381, ← ht379, ← ht369]; exact ringBC t366 t367 t368
        refine WP.iload (pc' := 251) at_249 rfl rfl ?_
        refine WP.bipush (pc' := 253) at_251 rfl (z := 17) rfl ?_
        have hc253 : t229 = (17 : Int32) := ht229.symm.trans rfl
        refine WP.icmp_ne (pc1 := 274) (pc2 := 256) at_253 (by decide) (by decide) rfl (fun k => absurd hc253 k) (fun _ => ?_)
        refine WP.iload (pc' := 258) at_256 rfl rfl ?_
        refine WP.iload (pc' := 260) at_258 rfl rfl ?_
        have hc260 : t330 = t369 := bef
        refine WP.icmp_ne (pc1 := 274) (pc2 := 263) at_260 (by decide) (by decide) rfl (fun k => absurd hc260 k) (fun _ => ?_)
        refine WP.iload (pc' := 265) at_263 rfl rfl ?_
        refine WP.iload (pc' := 267) at_265 rfl rfl ?_
        have hc267 : t365 = t381 := aft
        refine WP.icmp_ne (pc1 := 274) (pc2 := 270) at_267 (by decide) (by decide) rfl (fun k => absurd hc267 k) (fun _ => ?_)
        refine WP.iconst (pc' := 271) at_270 rfl (z := 1) rfl ?_
        refine WP.goto (pc' := 275) at_271 (by decide) (by decide) ?_
        refine WP.nretW (t := .boolean) at_275 rfl (by simp) rfl sn362 (by decide) (by decide) rfl
      · skip
        refine WP.castS (st' := [(.int (0 : Int32))]) rfl ?_
        have hc239 : (0 : Int32) = (0 : Int32) := by decide
        refine WP.ifc_eq (pc1 := 249) (pc2 := 242) at_239 (by decide) (by decide) rfl (fun _ => ?_) (fun k => absurd hc239 k)
        have az1 : sz e331 1 = sz e331 0 + t366 := sz_in (j := 0) ne1 cc1 (xsm1 qs370) of331
        have az2 : sz e331 2 = sz e331 1 := (sz_y (k := 1) (ysm2 qs378)).symm
        have az3 : sz e331 3 = sz e331 2 + t368 := sz_in (j := 2) ne3 cc3 (xsm3 qs380) of331
        have aft : t365 = t379 := by rw [← ht365, az3, az2, az1, ← ht379, ← ht369]; exact ringB t366 t367 t368
        refine WP.iload (pc' := 251) at_249 rfl rfl ?_
        refine WP.bipush (pc' := 253) at_251 rfl (z := 17) rfl ?_
        have hc253 : t229 = (17 : Int32) := ht229.symm.trans rfl
        refine WP.icmp_ne (pc1 := 274) (pc2 := 256) at_253 (by decide) (by decide) rfl (fun k => absurd hc253 k) (fun _ => ?_)
        refine WP.iload (pc' := 258) at_256 rfl rfl ?_
        refine WP.iload (pc' := 260) at_258 rfl rfl ?_
        have hc260 : t330 = t369 := bef
        refine WP.icmp_ne (pc1 := 274) (pc2 := 263) at_260 (by decide) (by decide) rfl (fun k => absurd hc260 k) (fun _ => ?_)
        refine WP.iload (pc' := 265) at_263 rfl rfl ?_
        refine WP.iload (pc' := 267) at_265 rfl rfl ?_
        have hc267 : t365 = t379 := aft
        refine WP.icmp_ne (pc1 := 274) (pc2 := 270) at_267 (by decide) (by decide) rfl (fun k => absurd hc267 k) (fun _ => ?_)
        refine WP.iconst (pc' := 271) at_270 rfl (z := 1) rfl ?_
        refine WP.goto (pc' := 275) at_271 (by decide) (by decide) ?_
        refine WP.nretW (t := .boolean) at_275 rfl (by simp) rfl sn362 (by decide) (by decide) rfl
    · skip
      refine WP.castS (st' := [(.int (0 : Int32))]) rfl ?_
      have hc222 : (0 : Int32) = (0 : Int32) := by decide
      refine WP.ifc_eq (pc1 := 232) (pc2 := 225) at_222 (by decide) (by decide) rfl (fun _ => ?_) (fun k => absurd hc222 k)
      refine WP.iload (pc' := 234) at_232 rfl rfl ?_
      refine WP.iload (pc' := 236) at_234 rfl rfl ?_
      refine WP.callS (argsL := [(.int t3), (.int t4)]) (rest := []) (wd := 0) (cl' := 45) (sl' := 667) (pc' := 239) at_236 rfl (wd148 hw) (wd149 hw) (wd2 hw) (wd150 hw) (by decide) (m_same hw t3 t4 h331 n0) pd_20 rfl rfl rfl (Nat.le_of_eq rfl) (by decide) (by decide) rfl rfl (by decide) (by decide) ?_
      rintro v hh382 ⟨⟨rfl, qs382⟩ | ⟨rfl, qs382⟩, he382⟩ <;> rw [he382]
      · skip
        refine WP.castS (st' := [(.int (1 : Int32))]) rfl ?_
        have hc239 : ¬ (1 : Int32) = (0 : Int32) := by decide
        refine WP.ifc_eq (pc1 := 249) (pc2 := 242) at_239 (by decide) (by decide) rfl (fun k => absurd k hc239) (fun _ => ?_)
        refine WP.iload (pc' := 244) at_242 rfl rfl ?_
        refine WP.iload (pc' := 246) at_244 rfl rfl ?_
        refine WP.isub (pc' := 247) at_246 rfl ?_
        generalize ht383 : (t369 - t368) = t383
        refine WP.istore (pc' := 249) at_247 rfl (Ls' := #[.val (.int x0), .val (.int x1), .val (.int x2), .val (.int x3), .val (.int x4), .val (.int t1), .val (.int t2), .val (.int t3), .val (.int t4), .val (.ref s5), .val (.ref s8), .val (.ref s15), .val (.ref s26), .val (.ref s41), .val (.ref s60), .val (.ref s83), .val (.ref b110), .val (.int t229), .val (.int t330), .val (.int t365), .val (.int t366), .val (.int t367), .val (.int t368), .val (.int t369), .val (.int t383)]) rfl ?_
        have az1 : sz e331 1 = sz e331 0 + t366 := sz_in (j := 0) ne1 cc1 (xsm1 qs370) of331
        have az2 : sz e331 2 = sz e331 1 + t367 := sz_in (j := 1) ne2 cc2 (xsm2 qs378) of331
        have az3 : sz e331 3 = sz e331 2 := (sz_y (k := 2) (ysm3 qs382)).symm
        have aft : t365 = t383 := by rw [← ht365, az3, az2, az1, ← ht383, ← ht369]; exact ringC t366 t367 t368
        refine WP.iload (pc' := 251) at_249 rfl rfl ?_
        refine WP.bipush (pc' := 253) at_251 rfl (z := 17) rfl ?_
        have hc253 : t229 = (17 : Int32) := ht229.symm.trans rfl
        refine WP.icmp_ne (pc1 := 274) (pc2 := 256) at_253 (by decide) (by decide) rfl (fun k => absurd hc253 k) (fun _ => ?_)
        refine WP.iload (pc' := 258) at_256 rfl rfl ?_
        refine WP.iload (pc' := 260) at_258 rfl rfl ?_
        have hc260 : t330 = t369 := bef
        refine WP.icmp_ne (pc1 := 274) (pc2 := 263) at_260 (by decide) (by decide) rfl (fun k => absurd hc260 k) (fun _ => ?_)
        refine WP.iload (pc' := 265) at_263 rfl rfl ?_
        refine WP.iload (pc' := 267) at_265 rfl rfl ?_
        have hc267 : t365 = t383 := aft
        refine WP.icmp_ne (pc1 := 274) (pc2 := 270) at_267 (by decide) (by decide) rfl (fun k => absurd hc267 k) (fun _ => ?_)
        refine WP.iconst (pc' := 271) at_270 rfl (z := 1) rfl ?_
        refine WP.goto (pc' := 275) at_271 (by decide) (by decide) ?_
        refine WP.nretW (t := .boolean) at_275 rfl (by simp) rfl sn362 (by decide) (by decide) rfl
      · skip
        refine WP.castS (st' := [(.int (0 : Int32))]) rfl ?_
        have hc239 : (0 : Int32) = (0 : Int32) := by decide
        refine WP.ifc_eq (pc1 := 249) (pc2 := 242) at_239 (by decide) (by decide) rfl (fun _ => ?_) (fun k => absurd hc239 k)
        have az1 : sz e331 1 = sz e331 0 + t366 := sz_in (j := 0) ne1 cc1 (xsm1 qs370) of331
        have az2 : sz e331 2 = sz e331 1 + t367 := sz_in (j := 1) ne2 cc2 (xsm2 qs378) of331
        have az3 : sz e331 3 = sz e331 2 + t368 := sz_in (j := 2) ne3 cc3 (xsm3 qs382) of331
        have aft : t365 = t369 := by rw [← ht365, az3, az2, az1, ← ht369]; exact ringO t366 t367 t368
        refine WP.iload (pc' := 251) at_249 rfl rfl ?_
        refine WP.bipush (pc' := 253) at_251 rfl (z := 17) rfl ?_
        have hc253 : t229 = (17 : Int32) := ht229.symm.trans rfl
        refine WP.icmp_ne (pc1 := 274) (pc2 := 256) at_253 (by decide) (by decide) rfl (fun k => absurd hc253 k) (fun _ => ?_)
        refine WP.iload (pc' := 258) at_256 rfl rfl ?_
        refine WP.iload (pc' := 260) at_258 rfl rfl ?_
        have hc260 : t330 = t369 := bef
        refine WP.icmp_ne (pc1 := 274) (pc2 := 263) at_260 (by decide) (by decide) rfl (fun k => absurd hc260 k) (fun _ => ?_)
        refine WP.iload (pc' := 265) at_263 rfl rfl ?_
        refine WP.iload (pc' := 267) at_265 rfl rfl ?_
        have hc267 : t365 = t369 := aft
        refine WP.icmp_ne (pc1 := 274) (pc2 := 270) at_267 (by decide) (by decide) rfl (fun k => absurd hc267 k) (fun _ => ?_)
        refine WP.iconst (pc' := 271) at_270 rfl (z := 1) rfl ?_
        refine WP.goto (pc' := 275) at_271 (by decide) (by decide) ?_
        refine WP.nretW (t := .boolean) at_275 rfl (by simp) rfl sn362 (by decide) (by decide) rfl
set_option maxRecDepth 65536 in
set_option maxHeartbeats 40000000 in
theorem comes_1 {Post : Tables → Env → Array Value → State → Outcome → State → Prop} (hpost : ∀ tb e args s v u, (limb_1_1.after args s (.returned v) u = true ∧ limb_1_2.after args s (.returned v) u = true ∧ True) → ReturnedEndW s (.returned v) u (Jvm.fieldLocs frame_1_writes args s ++ Jvm.arrayLocs frame_1_arrays args s ++ Jvm.staticLocs frame_1_statics s) 64 2368 → Post tb e args s (.returned v) u) :
    ArmFor flags0 classFile x code maxLocals ret World_1 tables_1 room_1 Calls_1 rest_1 Pre_1 Post := by
  intro l hfl _ _ p e ha hc hk s m args below hf hA hF happ hP
  obtain ⟨hcalls, hrest, hpre⟩ := hP
  obtain ⟨-, -, -, hnamed, -, -, -, hat⟩ := (Spec.applies_iff hf).mp happ
  obtain ⟨hg, hn⟩ := and_e (Cond.before_iff.mp (show (Jvm.Cond.and given_1 narrow_1).before args s = true from hpre))
  obtain ⟨g1, g2⟩ := and_e hg
  obtain ⟨g3, g4⟩ := and_e g2
  obtain ⟨g5, g6⟩ := and_e g4
  obtain ⟨g7, g8⟩ := and_e g6
  obtain ⟨g9, g10⟩ := and_e g8
  obtain ⟨w0, w1, w2, w3, w4, rfl⟩ : ∃ w0 w1 w2 w3 w4 : Value, args = #[w0, w1, w2, w3, w4] := by
    have hs : args.size = 5 := by simpa [Cond.value, given_1] using g1
    obtain ⟨L⟩ := args
    match L, hs with
    | [w0, w1, w2, w3, w4], _ => exact ⟨w0, w1, w2, w3, w4, rfl⟩
  have hw := fun d (hd : d ∈ tables_1) => atoms_spec (ws := Jvm.Cond.code x code maxLocals ret :: tables_1) hat d (List.mem_cons_of_mem _ hd)
  have hfit : Fit s := fun {y c} hc i hi => by
    obtain ⟨ha, rfl⟩ := Array.getElem?_eq_some_iff.mp hc
    have q := List.all_eq_true.mp ((Array.all_eq_true_iff_forall_mem.mp hF) _ (Array.getElem_mem ha)) i (List.mem_range.mpr hi)
    simpa [Array.getElem?_eq_getElem hi] using q
  obtain ⟨hsets, hown0⟩ := atoms_of _ (rest_1_c_eq ▸ (show rest_1_c.before _ s = true from hrest))
  have hr0 := Cond.before_iff.mp hown0
  obtain ⟨i0, ei0⟩ := is_v g3
  obtain rfl : w0 = (.int i0) := Option.some.inj ei0
  obtain ⟨i1, ei1⟩ := is_v g5
  obtain rfl : w1 = (.int i1) := Option.some.inj ei1
  obtain ⟨i2, ei2⟩ := is_v g7
  obtain rfl : w2 = (.int i2) := Option.some.inj ei2
  obtain ⟨i3, ei3⟩ := is_v g9
  obtain rfl : w3 = (.int i3) := Option.some.inj ei3
  obtain ⟨i4, ei4⟩ := is_v g10
  obtain rfl : w4 = (.int i4) := Option.some.inj ei4
  obtain ⟨cs, evS⟩ := is_v (Cond.before_iff.mp (hsets _ (List.mem_of_getElem? (i := 1) rfl)))
  have S_CS := Sta.start evS (Or.inl (hsets _ (List.mem_of_getElem? (i := 0) rfl)))
  have hcs : ¬ cs = 0 := fun q => by
    have z := not_v (Cond.before_iff.mp (hsets _ (List.mem_of_getElem? (i := 2) rfl)))
    rw [q] at evS
    rw [eq_i evS (Term.int_eval 0) rfl] at z
    exact absurd z (by decide)
  obtain ⟨fv, evF, hfv⟩ := isR_v (Cond.before_iff.mp (hsets _ (List.mem_of_getElem? (i := 8) rfl)))
  have S_FM := Sta.start evF (Or.inl (hsets _ (List.mem_of_getElem? (i := 7) rfl)))
  have hCH : CHv s consts_1 s.vm s.heap := CHv.start (hELw hw) (fun p hp => hcalls.1 p hp) (hsets _ (List.mem_of_getElem? (i := 2) rfl)) (wd25 hw) (wd11 hw)
  obtain ⟨n, o, h1, h2, h3, _, L, rfl, ⟨rfl, N⟩, hq⟩ := rm0 (Z := s) hw i0 i1 i2 i3 i4 s.heap s.heap.size (Nat.le_refl _) (Old.start s) cs S_CS hcs fv hfv S_FM l tables_1 p e ha hc hk s m _ below hf ((Spec.applies_iff_loose hf).mp happ).1 ⟨rfl, State.Warmed39.refl s, rfl, hCH⟩ trivial
  refine ⟨n, _, h1, h2, h3, hpost _ _ _ _ _ _ ⟨Cond.after_iff.mpr rfl, Cond.after_iff.mpr (eq_i res_at (Term.int_eval (1)) rfl), trivial⟩ ⟨hq.1, hq.2.1, hq.2.2.1, (hq.2.2.2.sift fun y hy => Or.inr (N y hy)).mono (by decide) (by decide)⟩⟩
theorem main_1_1 : Claimed_1_1 := comes_1 fun _ _ _ _ _ _ h hF => ⟨h.1, hF⟩
theorem main_1_2 : Claimed_1_2 := comes_1 fun _ _ _ _ _ _ h hF => ⟨h.2.1, hF⟩
end Jvm.Pilot.@@N@@
namespace Jvm.Pilot.@@N@@
open Jvm Jvm.ClassFile Sem Op Lib Jvm.Free Jvm.Stand Jvm.Pilot.@@N@@.Jvm.D
/-! MADE BY PROGRAM (witnessworld.py) out of the Statement's table words and the real class files: 20 classes; the members and pool entries that the words name. The judged class is class 1, her method 1. -/
namespace start1
open Jvm.ClassFile
def u (s : String) : CpInfo := .utf8 (stringToUtf16 s)
/-- a pool by its gaps: so many unusable entries, then the entry; so many at the end -/
def gap : Nat → List CpInfo → List CpInfo
  | 0, r => r
  | n + 1, r => .unusable :: gap n r
def poolList (es : List (Nat × CpInfo)) (last : Nat) : List CpInfo := es.foldr (fun e r => gap e.1 (e.2 :: r)) (gap last [])
def pool (es : List (Nat × CpInfo)) (last : Nat) : Array CpInfo := ⟨poolList es last⟩
def fileOf (pool : Array CpInfo) (this : Nat) (attrs : Array Attribute := #[]) (ms : Array MethodInfo := #[]) (fl : Nat := 33) (sup : Nat := 0) (ifs : Array Nat := #[]) (fds : Array FieldInfo := #[]) : ClassFile where
  minorVersion := 0
  majorVersion := 65
  constantPool := pool
  accessFlags := fl
  thisClass := this
  superClass := sup
  interfaces := ifs
  fields := fds
  methods := ms
  attributes := attrs
def plain (name : String) (sup : Option ClassId) : Class where
  name := name
  kind := .ordinary
  loader := none
  accessFlags := 33
  super := sup
  interfaces := #[]
  cf := none
  fields := #[]
  methods := #[]
  instanceTypes := #[]
  staticTypes := #[]
  resolved := #[]
  callSites := []
  init := .initialized
  statics := none
  mirror := none

def pool0 : Array CpInfo := pool [(5, u "<init>"), (0, u "()V"), (1, .class_ 10), (1, u "java/lang/Object")] 113

def k0c0 : Code := { maxStack := 0, maxLocals := 1, code := object_method_1_code, exceptionTable := #[], attributes := #[] }
def k0m0 : Method := { name := "<init>", desc := "()V", sig := { parameters := [], returnType := none }, accessFlags := 1, code := some k0c0 }
/-- java/lang/Object -/
def k0 : Class := { plain "java/lang/Object" none with
  accessFlags := 33
  interfaces := #[]
  cf := some (fileOf pool0 8 #[] #[{ accessFlags := 1, nameIndex := 5, descriptorIndex := 6, attributes := #[] }] 33 0 #[] #[])
  fields := #[]
  methods := #[k0m0]
  instanceTypes := #[]
  staticTypes := #[]
  resolved := Array.replicate 124 none
  statics := none }

def pool1 : Array CpInfo := pool [(2, .class_ 4), (0, .nameAndType 5 6), (0, u "java/lang/Object"), (0, u "<init>"), (0, u "()V"), (0, .methodref 8 9), (0, .class_ 10), (0, .nameAndType 11 12), (0, u "com/example/vipool/vipool/http/HttpHeadSizePinLaw"), (0, u "name"), (0, u "(I)Ljava/lang/String;"), (0, .methodref 8 14), (0, .nameAndType 15 12), (0, u "value"), (0, .class_ 17), (0, u "com/example/vipool/vipool/http/HttpHead"), (0, .methodref 16 3), (0, .methodref 16 20), (0, .nameAndType 21 22), (0, u "size"), (0, u "()I"), (0, .methodref 16 24), (0, .nameAndType 25 26), (0, u "add"), (0, u "(Ljava/lang/String;Ljava/lang/String;)V"), (0, .methodref 16 28), (0, .nameAndType 29 30), (0, u "remove"), (0, u "(Ljava/lang/String;)V"), (0, .methodref 8 32), (0, .nameAndType 33 34), (0, u "same"), (0, u "(II)Z"), (0, .methodref 8 36), (0, .nameAndType 37 38), (0, u "letter"), (0, u "(I)C"), (0, .methodref 8 40), (0, .nameAndType 41 42), (0, u "str"), (0, u "(ICCC)Ljava/lang/String;"), (0, .class_ 44), (0, u "java/lang/String"), (0, .methodref 43 46), (0, .nameAndType 5 47), (0, u "([C)V"), (0, .methodref 43 49), (0, .nameAndType 50 51), (0, u "valueOf"), (0, u "(C)Ljava/lang/String;"), (2, u "law"), (0, u "(IIIII)Z")] 3

def k1m0 : Method := { name := "<init>", desc := "()V", sig := { parameters := [], returnType := none }, accessFlags := 1, code := none }
def k1c1 : Code := { maxStack := 3, maxLocals := 25, code := code, exceptionTable := #[], attributes := #[] }
def k1m1 : Method := { name := "law", desc := "(IIIII)Z", sig := { parameters := [.int, .int, .int, .int, .int], returnType := some .boolean }, accessFlags := 9, code := some k1c1 }
def k1c2 : Code := { maxStack := 2, maxLocals := 2, code := method_3_code, exceptionTable := #[], attributes := #[] }
def k1m2 : Method := { name := "letter", desc := "(I)C", sig := { parameters := [.int], returnType := some .char }, accessFlags := 10, code := some k1c2 }
def k1c3 : Code := { maxStack := 5, maxLocals := 1, code := method_4_code, exceptionTable := #[], attributes := #[] }
def k1m3 : Method := { name := "name", desc := "(I)Ljava/lang/String;", sig := { parameters := [.int], returnType := some (.object "java/lang/String") }, accessFlags := 10, code := some k1c3 }
def k1c4 : Code := { maxStack := 5, maxLocals := 1, code := method_5_code, exceptionTable := #[], attributes := #[] }
def k1m4 : Method := { name := "value", desc := "(I)Ljava/lang/String;", sig := { parameters := [.int], returnType := some (.object "java/lang/String") }, accessFlags := 10, code := some k1c4 }
def k1c5 : Code := { maxStack := 6, maxLocals := 4, code := method_6_code, exceptionTable := #[], attributes := #[] }
def k1m5 : Method := { name := "str", desc := "(ICCC)Ljava/lang/String;", sig := { parameters := [.int, .char, .char, .char], returnType := some (.object "java/lang/String") }, accessFlags := 10, code := some k1c5 }
def k1c6 : Code := { maxStack := 3, maxLocals := 6, code := method_7_code, exceptionTable := #[], attributes := #[] }
def k1m6 : Method := { name := "same", desc := "(II)Z", sig := { parameters := [.int, .int], returnType := some .boolean }, accessFlags := 10, code := some k1c6 }
/-- com/example/vipool/vipool/http/HttpHeadSizePinLaw -/
def k1 : Class := { plain "com/example/vipool/vipool/http/HttpHeadSizePinLaw" (some 0) with
  accessFlags := 49
  interfaces := #[]
  cf := some (fileOf pool1 8 #[] #[{ accessFlags := 1, nameIndex := 5, descriptorIndex := 6, attributes := #[] }, { accessFlags := 9, nameIndex := 54, descriptorIndex := 55, attributes := #[] }, { accessFlags := 10, nameIndex := 37, descriptorIndex := 38, attributes := #[] }, { accessFlags := 10, nameIndex := 11, descriptorIndex := 12, attributes := #[] }, { accessFlags := 10, nameIndex := 15, descriptorIndex := 12, attributes := #[] }, { accessFlags := 10, nameIndex := 41, descriptorIndex := 42, attributes := #[] }, { accessFlags := 10, nameIndex := 33, descriptorIndex := 34, attributes := #[] }] 49 2 #[] #[])
  fields := #[]
  methods := #[k1m0, k1m1, k1m2, k1m3, k1m4, k1m5, k1m6]
  instanceTypes := #[]
  staticTypes := #[]
  resolved := Array.replicate 59 none
  statics := none }

def pool2 : Array CpInfo := pool [(1, .class_ 2), (0, u "java/io/Serializable"), (0, .class_ 4), (0, u "java/lang/Object")] 2

/-- java/io/Serializable -/
def k2 : Class := { plain "java/io/Serializable" (some 0) with
  accessFlags := 1537
  interfaces := #[]
  cf := some (fileOf pool2 1 #[] #[] 1537 3 #[] #[])
  fields := #[]
  methods := #[]
  instanceTypes := #[]
  staticTypes := #[]
  resolved := Array.replicate 7 none
  statics := none }

def pool3 : Array CpInfo := pool [(1, .class_ 2), (0, u "java/lang/Comparable"), (0, .class_ 4), (0, u "java/lang/Object")] 7

/-- java/lang/Comparable -/
def k3 : Class := { plain "java/lang/Comparable" (some 0) with
  accessFlags := 1537
  interfaces := #[]
  cf := some (fileOf pool3 1 #[] #[] 1537 3 #[] #[])
  fields := #[]
  methods := #[]
  instanceTypes := #[]
  staticTypes := #[]
  resolved := Array.replicate 12 none
  statics := none }

def pool4 : Array CpInfo := pool [(2, .class_ 4), (1, u "java/lang/CharSequence"), (42, .class_ 48), (0, u "java/lang/CharSequence$1CodePointIterator"), (10, .class_ 60), (0, u "java/lang/CharSequence$1CharIterator"), (5, .class_ 67), (0, u "java/lang/Object")] 63

/-- java/lang/CharSequence -/
def k4 : Class := { plain "java/lang/CharSequence" (some 0) with
  accessFlags := 1537
  interfaces := #[]
  cf := some (fileOf pool4 2 #[.nestMembers #[47, 59]] #[] 1537 66 #[] #[])
  fields := #[]
  methods := #[]
  instanceTypes := #[]
  staticTypes := #[]
  resolved := Array.replicate 131 none
  statics := none }

def pool5 : Array CpInfo := pool [(1, .class_ 2), (0, u "java/lang/constant/Constable"), (0, .class_ 4), (0, u "java/lang/Object")] 6

/-- java/lang/constant/Constable -/
def k5 : Class := { plain "java/lang/constant/Constable" (some 0) with
  accessFlags := 1537
  interfaces := #[]
  cf := some (fileOf pool5 1 #[] #[] 1537 3 #[] #[])
  fields := #[]
  methods := #[]
  instanceTypes := #[]
  staticTypes := #[]
  resolved := Array.replicate 11 none
  statics := none }

def pool6 : Array CpInfo := pool [(1, .class_ 2), (0, u "java/lang/constant/ConstantDesc"), (0, .class_ 4), (0, u "java/lang/Object")] 32

/-- java/lang/constant/ConstantDesc -/
def k6 : Class := { plain "java/lang/constant/ConstantDesc" (some 0) with
  accessFlags := 1537
  interfaces := #[]
  cf := some (fileOf pool6 1 #[] #[] 1537 3 #[] #[])
  fields := #[]
  methods := #[]
  instanceTypes := #[]
  staticTypes := #[]
  resolved := Array.replicate 37 none
  statics := none }

def pool7 : Array CpInfo := pool [(1, .methodref 2 3), (0, .class_ 4), (0, .nameAndType 5 6), (0, u "java/lang/Object"), (0, u "<init>"), (0, u "()V"), (0, .string 8), (0, u ""), (0, .fieldref 10 11), (0, .class_ 12), (0, .nameAndType 13 14), (0, u "java/lang/String"), (0, u "value"), (0, u "[B"), (0, .fieldref 10 16), (0, .nameAndType 17 18), (0, u "coder"), (0, u "B"), (2, u "hash"), (0, u "I"), (2, u "hashIsZero"), (0, u "Z"), (0, .methodref 10 28), (0, .nameAndType 5 29), (0, u "([CIILjava/lang/Void;)V"), (8, .fieldref 10 39), (0, .nameAndType 40 26), (0, u "COMPACT_STRINGS"), (1, .class_ 44), (1, u "java/lang/StringUTF16"), (0, u "compress"), (1, .methodref 42 48), (0, .nameAndType 49 50), (0, u "coderFromArrayLen"), (0, u "([BI)B"), (2, u "toBytes"), (53, .class_ 109), (1, u "java/lang/StringLatin1"), (32, u "()Z"), (34, .methodref 42 178), (0, .nameAndType 45 179), (0, u "([CII)[B"), (29, .methodref 10 210), (0, .nameAndType 5 211), (0, u "([BB)V"), (122, u "()I"), (0, .methodref 10 336), (0, .nameAndType 17 337), (0, u "()B"), (25, u "([BI)C"), (5, u "(C)Z"), (21, u "(II)V"), (35, u "(I)C"), (64, .methodref 10 493), (0, .nameAndType 494 142), (0, u "isLatin1"), (0, .methodref 107 496), (0, .nameAndType 497 363), (0, u "charAt"), (3, u "checkIndex"), (5, u "length"), (67, .class_ 576), (0, u "java/lang/CharSequence"), (22, u "CASE_INSENSITIVE_ORDER"), (0, u "Ljava/util/Comparator;"), (181, u "valueOf"), (0, u "(C)Ljava/lang/String;"), (226, u "([C)V"), (4, .methodref 107 1016), (0, .nameAndType 1017 369), (0, u "canEncode"), (0, .methodref 107 1019), (0, .nameAndType 53 1020), (0, u "(C)[B"), (32, .fieldref 1054 1055), (0, .class_ 1056), (0, .nameAndType 1057 1058), (0, u "jdk/internal/util/Preconditions"), (0, u "SIOOBE_FORMATTER"), (0, u "Ljava/util/function/BiFunction;"), (0, .methodref 1054 1060), (0, .nameAndType 501 1061), (0, u "(IILjava/util/function/BiFunction;)I"), (39, u "serialPersistentFields"), (0, u "[Ljava/io/ObjectStreamField;"), (0, .class_ 1104), (0, u "java/lang/String$CaseInsensitiveComparator"), (1, .class_ 1107), (0, u "java/io/Serializable"), (0, .class_ 1109), (0, u "java/lang/Comparable"), (0, .class_ 1111), (0, u "java/lang/constant/Constable"), (0, .class_ 1113), (0, u "java/lang/constant/ConstantDesc"), (2, u "serialVersionUID"), (0, u "J"), (3, u "REPL"), (0, u "C"), (2, u "LATIN1"), (1, u "UTF16")] 323

def k7m0 : Method := { name := "<init>", desc := "()V", sig := { parameters := [], returnType := none }, accessFlags := 1, code := none }
def k7c1 : Code := { maxStack := 5, maxLocals := 2, code := jdk_42_method_3_code, exceptionTable := #[], attributes := #[] }
def k7m1 : Method := { name := "<init>", desc := "([C)V", sig := { parameters := [(.array .char)], returnType := none }, accessFlags := 1, code := some k7c1 }
def k7c2 : Code := { maxStack := 2, maxLocals := 1, code := jdk_42_method_54_code, exceptionTable := #[], attributes := #[] }
def k7m2 : Method := { name := "length", desc := "()I", sig := { parameters := [], returnType := some .int }, accessFlags := 1, code := some k7c2 }
def k7c3 : Code := { maxStack := 2, maxLocals := 2, code := jdk_42_method_56_code, exceptionTable := #[], attributes := #[] }
def k7m3 : Method := { name := "charAt", desc := "(I)C", sig := { parameters := [.int], returnType := some .char }, accessFlags := 1, code := some k7c3 }
def k7c4 : Code := { maxStack := 4, maxLocals := 1, code := jdk_42_method_139_code, exceptionTable := #[], attributes := #[] }
def k7m4 : Method := { name := "valueOf", desc := "(C)Ljava/lang/String;", sig := { parameters := [.char], returnType := some (.object "java/lang/String") }, accessFlags := 9, code := some k7c4 }
def k7c5 : Code := { maxStack := 4, maxLocals := 6, code := jdk_42_method_149_code, exceptionTable := #[], attributes := #[] }
def k7m5 : Method := { name := "<init>", desc := "([CIILjava/lang/Void;)V", sig := { parameters := [(.array .char), .int, .int, (.object "java/lang/Void")], returnType := none }, accessFlags := 2, code := some k7c5 }
def k7c6 : Code := { maxStack := 2, maxLocals := 3, code := jdk_42_method_151_code, exceptionTable := #[], attributes := #[] }
def k7m6 : Method := { name := "<init>", desc := "([BB)V", sig := { parameters := [(.array .byte), .byte], returnType := none }, accessFlags := 0, code := some k7c6 }
def k7c7 : Code := { maxStack := 1, maxLocals := 1, code := jdk_42_method_152_code, exceptionTable := #[], attributes := #[] }
def k7m7 : Method := { name := "coder", desc := "()B", sig := { parameters := [], returnType := some .byte }, accessFlags := 0, code := some k7c7 }
def k7c8 : Code := { maxStack := 1, maxLocals := 1, code := jdk_42_method_154_code, exceptionTable := #[], attributes := #[] }
def k7m8 : Method := { name := "isLatin1", desc := "()Z", sig := { parameters := [], returnType := some .boolean }, accessFlags := 0, code := some k7c8 }
def k7c9 : Code := { maxStack := 3, maxLocals := 2, code := jdk_42_method_155_code, exceptionTable := #[], attributes := #[] }
def k7m9 : Method := { name := "checkIndex", desc := "(II)V", sig := { parameters := [.int, .int], returnType := none }, accessFlags := 8, code := some k7c9 }
/-- java/lang/String -/
def k7 : Class := { plain "java/lang/String" (some 0) with
  accessFlags := 49
  interfaces := #[2, 3, 4, 5, 6]
  cf := some (fileOf pool7 10 #[.nestMembers #[1103]] #[{ accessFlags := 1, nameIndex := 5, descriptorIndex := 6, attributes := #[] }, { accessFlags := 1, nameIndex := 5, descriptorIndex := 1010, attributes := #[] }, { accessFlags := 1, nameIndex := 507, descriptorIndex := 334, attributes := #[] }, { accessFlags := 1, nameIndex := 497, descriptorIndex := 427, attributes := #[] }, { accessFlags := 9, nameIndex := 782, descriptorIndex := 783, attributes := #[] }, { accessFlags := 2, nameIndex := 5, descriptorIndex := 29, attributes := #[] }, { accessFlags := 0, nameIndex := 5, descriptorIndex := 211, attributes := #[] }, { accessFlags := 0, nameIndex := 17, descriptorIndex := 337, attributes := #[] }, { accessFlags := 0, nameIndex := 494, descriptorIndex := 142, attributes := #[] }, { accessFlags := 8, nameIndex := 501, descriptorIndex := 391, attributes := #[] }] 49 2 #[1106, 1108, 575, 1110, 1112] #[{ accessFlags := 18, nameIndex := 13, descriptorIndex := 14, attributes := #[] }, { accessFlags := 18, nameIndex := 17, descriptorIndex := 18, attributes := #[] }, { accessFlags := 2, nameIndex := 21, descriptorIndex := 22, attributes := #[] }, { accessFlags := 2, nameIndex := 25, descriptorIndex := 26, attributes := #[] }, { accessFlags := 26, nameIndex := 1116, descriptorIndex := 1117, attributes := #[] }, { accessFlags := 24, nameIndex := 40, descriptorIndex := 26, attributes := #[] }, { accessFlags := 26, nameIndex := 1101, descriptorIndex := 1102, attributes := #[] }, { accessFlags := 26, nameIndex := 1121, descriptorIndex := 1122, attributes := #[] }, { accessFlags := 25, nameIndex := 599, descriptorIndex := 600, attributes := #[] }, { accessFlags := 24, nameIndex := 1125, descriptorIndex := 18, attributes := #[] }, { accessFlags := 24, nameIndex := 1127, descriptorIndex := 18, attributes := #[] }])
  fields := #[{ name := "value", type := (.array .byte), accessFlags := 18, slot := 0, constantValue := 0 }, { name := "coder", type := .byte, accessFlags := 18, slot := 1, constantValue := 0 }, { name := "hash", type := .int, accessFlags := 2, slot := 2, constantValue := 0 }, { name := "hashIsZero", type := .boolean, accessFlags := 2, slot := 3, constantValue := 0 }, { name := "serialVersionUID", type := .long, accessFlags := 26, slot := 0, constantValue := 0 }, { name := "COMPACT_STRINGS", type := .boolean, accessFlags := 24, slot := 1, constantValue := 0 }, { name := "serialPersistentFields", type := (.array (.object "java/io/ObjectStreamField")), accessFlags := 26, slot := 2, constantValue := 0 }, { name := "REPL", type := .char, accessFlags := 26, slot := 3, constantValue := 0 }, { name := "CASE_INSENSITIVE_ORDER", type := (.object "java/util/Comparator"), accessFlags := 25, slot := 4, constantValue := 0 }, { name := "LATIN1", type := .byte, accessFlags := 24, slot := 5, constantValue := 0 }, { name := "UTF16", type := .byte, accessFlags := 24, slot := 6, constantValue := 0 }]
  methods := #[k7m0, k7m1, k7m2, k7m3, k7m4, k7m5, k7m6, k7m7, k7m8, k7m9]
  instanceTypes := #[(.array .byte), .byte, .int, .boolean]
  staticTypes := #[.long, .boolean, (.array (.object "java/io/ObjectStreamField")), .char, (.object "java/util/Comparator"), .byte, .byte]
  resolved := Array.replicate 1451 none
  statics := some 0 }

def pool8 : Array CpInfo := pool [(6, .class_ 8), (1, u "java/lang/Object"), (0, u "<init>"), (0, u "()V"), (1, .class_ 14), (1, u "java/lang/StringUTF16"), (31, u "$assertionsDisabled"), (0, u "Z"), (13, u "HI_BYTE_SHIFT"), (0, u "I"), (2, u "LO_BYTE_SHIFT"), (49, .methodref 12 116), (0, .nameAndType 117 118), (0, u "compress"), (0, u "([CI[BII)I"), (3, u "([CII)[B"), (138, u "coderFromArrayLen"), (0, u "([BI)B"), (106, .class_ 371), (1, u "java/lang/StringUTF16$LinesSpliterator"), (58, u "MAX_LENGTH"), (196, .class_ 628), (0, u "java/lang/StringUTF16$CodePointsSpliterator"), (0, .class_ 630), (0, u "java/lang/StringUTF16$CharsSpliterator")] 4

def k8m0 : Method := { name := "<init>", desc := "()V", sig := { parameters := [], returnType := none }, accessFlags := 0, code := none }
def k8c1 : Code := { maxStack := 2, maxLocals := 2, code := jdk_52_method_15_code, exceptionTable := #[], attributes := #[] }
def k8m1 : Method := { name := "coderFromArrayLen", desc := "([BI)B", sig := { parameters := [(.array .byte), .int], returnType := some .byte }, accessFlags := 8, code := some k8c1 }
def k8c2 : Code := { maxStack := 5, maxLocals := 6, code := jdk_52_method_16_code, exceptionTable := #[], attributes := #[] }
def k8m2 : Method := { name := "compress", desc := "([CII)[B", sig := { parameters := [(.array .char), .int, .int], returnType := some (.array .byte) }, accessFlags := 9, code := some k8c2 }
def k8c3 : Code := { maxStack := 3, maxLocals := 7, code := jdk_52_method_21_code, exceptionTable := #[], attributes := #[] }
def k8m3 : Method := { name := "compress", desc := "([CI[BII)I", sig := { parameters := [(.array .char), .int, (.array .byte), .int, .int], returnType := some .int }, accessFlags := 9, code := some k8c3 }
/-- java/lang/StringUTF16 -/
def k8 : Class := { plain "java/lang/StringUTF16" (some 0) with
  accessFlags := 48
  interfaces := #[]
  cf := some (fileOf pool8 12 #[.nestMembers #[627, 629, 369]] #[{ accessFlags := 0, nameIndex := 9, descriptorIndex := 10, attributes := #[] }, { accessFlags := 8, nameIndex := 261, descriptorIndex := 262, attributes := #[] }, { accessFlags := 9, nameIndex := 117, descriptorIndex := 122, attributes := #[] }, { accessFlags := 9, nameIndex := 117, descriptorIndex := 118, attributes := #[] }] 48 6 #[] #[{ accessFlags := 26, nameIndex := 61, descriptorIndex := 62, attributes := #[] }, { accessFlags := 26, nameIndex := 65, descriptorIndex := 62, attributes := #[] }, { accessFlags := 24, nameIndex := 430, descriptorIndex := 62, attributes := #[] }, { accessFlags := 4120, nameIndex := 46, descriptorIndex := 47, attributes := #[] }])
  fields := #[{ name := "HI_BYTE_SHIFT", type := .int, accessFlags := 26, slot := 0, constantValue := 0 }, { name := "LO_BYTE_SHIFT", type := .int, accessFlags := 26, slot := 1, constantValue := 0 }, { name := "MAX_LENGTH", type := .int, accessFlags := 24, slot := 2, constantValue := 0 }, { name := "$assertionsDisabled", type := .boolean, accessFlags := 4120, slot := 3, constantValue := 0 }]
  methods := #[k8m0, k8m1, k8m2, k8m3]
  instanceTypes := #[]
  staticTypes := #[.int, .int, .int, .boolean]
  resolved := Array.replicate 635 none
  statics := none }

def pool9 : Array CpInfo := pool [(1, .class_ 2), (0, u "java/lang/String"), (1, .class_ 6), (1, u "java/lang/Object"), (0, u "<init>"), (0, u "()V"), (0, .methodref 1 10), (0, .nameAndType 11 12), (0, u "checkIndex"), (0, u "(II)V"), (1, .class_ 16), (1, u "java/lang/StringLatin1"), (36, u "([BI)C"), (36, u "canEncode"), (14, u "(C)Z"), (15, u "$assertionsDisabled"), (0, u "Z"), (98, .class_ 223), (1, u "java/lang/StringLatin1$LinesSpliterator"), (28, u "charAt"), (127, u "toBytes"), (1, u "(C)[B"), (7, .class_ 391), (0, u "java/lang/StringLatin1$CharsSpliterator")] 3

def k9m0 : Method := { name := "<init>", desc := "()V", sig := { parameters := [], returnType := none }, accessFlags := 0, code := none }
def k9c1 : Code := { maxStack := 2, maxLocals := 2, code := jdk_43_method_2_code, exceptionTable := #[], attributes := #[] }
def k9m1 : Method := { name := "charAt", desc := "([BI)C", sig := { parameters := [(.array .byte), .int], returnType := some .char }, accessFlags := 9, code := some k9c1 }
def k9c2 : Code := { maxStack := 2, maxLocals := 1, code := jdk_43_method_3_code, exceptionTable := #[], attributes := #[] }
def k9m2 : Method := { name := "canEncode", desc := "(C)Z", sig := { parameters := [.char], returnType := some .boolean }, accessFlags := 9, code := some k9c2 }
def k9c3 : Code := { maxStack := 4, maxLocals := 1, code := jdk_43_method_46_code, exceptionTable := #[], attributes := #[] }
def k9m3 : Method := { name := "toBytes", desc := "(C)[B", sig := { parameters := [.char], returnType := some (.array .byte) }, accessFlags := 9, code := some k9c3 }
/-- java/lang/StringLatin1 -/
def k9 : Class := { plain "java/lang/StringLatin1" (some 0) with
  accessFlags := 48
  interfaces := #[]
  cf := some (fileOf pool9 14 #[.nestMembers #[390, 221]] #[{ accessFlags := 0, nameIndex := 7, descriptorIndex := 8, attributes := #[] }, { accessFlags := 9, nameIndex := 252, descriptorIndex := 53, attributes := #[] }, { accessFlags := 9, nameIndex := 90, descriptorIndex := 105, attributes := #[] }, { accessFlags := 9, nameIndex := 380, descriptorIndex := 382, attributes := #[] }] 48 4 #[] #[{ accessFlags := 4120, nameIndex := 121, descriptorIndex := 122, attributes := #[] }])
  fields := #[{ name := "$assertionsDisabled", type := .boolean, accessFlags := 4120, slot := 0, constantValue := 0 }]
  methods := #[k9m0, k9m1, k9m2, k9m3]
  instanceTypes := #[]
  staticTypes := #[.boolean]
  resolved := Array.replicate 395 none
  statics := none }

def pool10 : Array CpInfo := pool [(1, .class_ 2), (0, u "com/example/vipool/vipool/http/HttpHead"), (2, .methodref 6 7), (0, .class_ 8), (0, .nameAndType 9 10), (0, u "java/lang/Object"), (0, u "<init>"), (0, u "()V"), (0, .fieldref 1 12), (0, .nameAndType 13 14), (0, u "raw"), (0, u "[B"), (0, .fieldref 1 16), (0, .nameAndType 17 18), (0, u "spans"), (0, u "[I"), (5, u "()I"), (37, u "(Ljava/lang/String;)V"), (13, u "minorVersion"), (7, u "method"), (3, u "Ljava/lang/String;"), (2, u "status"), (0, u "I"), (5, u "fields"), (15, .fieldref 1 115), (0, .nameAndType 116 92), (0, u "used"), (0, .fieldref 1 118), (0, .nameAndType 98 92), (2, u "pathStart"), (2, u "pathEnd"), (6, u "queryStart"), (0, .fieldref 1 133), (0, .nameAndType 134 92), (0, u "secondEnd"), (16, .methodref 1 152), (0, .nameAndType 153 154), (0, u "named"), (0, u "(ILjava/lang/String;)Z"), (18, u "memberStart"), (2, u "memberEnd"), (7, .class_ 186), (1, u "java/lang/String"), (4, u "add"), (4, .methodref 1 197), (0, .nameAndType 198 199), (0, u "equalsInAnyCase"), (0, u "(IILjava/lang/String;)Z"), (19, .methodref 1 220), (0, .nameAndType 221 62), (0, u "put"), (0, .methodref 1 223), (0, .nameAndType 224 225), (0, u "span"), (0, u "(IIII)V"), (2, .methodref 1 229), (0, .nameAndType 230 231), (0, u "room"), (0, u "(I)V"), (6, .fieldref 1 239), (0, .nameAndType 240 92), (0, u "secondStart"), (0, .fieldref 1 242), (0, .nameAndType 243 244), (0, u "request"), (0, u "Z"), (0, .fieldref 1 246), (0, .nameAndType 247 92), (0, u "firstEnd"), (20, u "METHODS"), (0, u "Ljava/util/List;"), (2, u "size"), (3, .methodref 184 277), (0, .nameAndType 278 24), (0, u "length"), (0, .methodref 184 280), (0, .nameAndType 281 282), (0, u "charAt"), (0, u "(I)C"), (49, u "walkField"), (2, u "walkAt"), (3, .methodref 1 340), (0, .nameAndType 341 342), (0, u "sameInAnyCase"), (0, u "(II)Z"), (23, u "TOKEN"), (0, u "[Z"), (23, u "CONTENT_LENGTH"), (3, u "TRANSFER_ENCODING"), (2, u "CONNECTION"), (0, u "HOST"), (0, u "KEPT_BYTES"), (3, u "SPAN"), (1, u "REMOVED"), (1, u "NO_QUERY"), (0, u "VERSION_BYTES"), (1, u "MOST_DIGITS"), (1, u "FIRST_BYTES"), (1, u "FIRST_FIELDS"), (0, u "KEPT_FIELDS"), (24, u "remove"), (3, u "(Ljava/lang/String;Ljava/lang/String;)V")] 28

def k10c0 : Code := { maxStack := 2, maxLocals := 1, code := prog_7_method_1_code, exceptionTable := #[], attributes := #[] }
def k10m0 : Method := { name := "<init>", desc := "()V", sig := { parameters := [], returnType := none }, accessFlags := 1, code := some k10c0 }
def k10c1 : Code := { maxStack := 3, maxLocals := 3, code := prog_7_method_22_code, exceptionTable := #[], attributes := #[] }
def k10m1 : Method := { name := "remove", desc := "(Ljava/lang/String;)V", sig := { parameters := [(.object "java/lang/String")], returnType := none }, accessFlags := 1, code := some k10c1 }
def k10c2 : Code := { maxStack := 5, maxLocals := 5, code := prog_7_method_24_code, exceptionTable := #[], attributes := #[] }
def k10m2 : Method := { name := "add", desc := "(Ljava/lang/String;Ljava/lang/String;)V", sig := { parameters := [(.object "java/lang/String"), (.object "java/lang/String")], returnType := none }, accessFlags := 1, code := some k10c2 }
def k10c3 : Code := { maxStack := 5, maxLocals := 4, code := prog_7_method_26_code, exceptionTable := #[], attributes := #[] }
def k10m3 : Method := { name := "size", desc := "()I", sig := { parameters := [], returnType := some .int }, accessFlags := 1, code := some k10c3 }
def k10c4 : Code := { maxStack := 4, maxLocals := 6, code := prog_7_method_35_code, exceptionTable := #[], attributes := #[] }
def k10m4 : Method := { name := "span", desc := "(IIII)V", sig := { parameters := [.int, .int, .int, .int], returnType := none }, accessFlags := 2, code := some k10c4 }
def k10c5 : Code := { maxStack := 5, maxLocals := 4, code := prog_7_method_42_code, exceptionTable := #[], attributes := #[] }
def k10m5 : Method := { name := "named", desc := "(ILjava/lang/String;)Z", sig := { parameters := [.int, (.object "java/lang/String")], returnType := some .boolean }, accessFlags := 2, code := some k10c5 }
def k10c6 : Code := { maxStack := 3, maxLocals := 5, code := prog_7_method_43_code, exceptionTable := #[], attributes := #[] }
def k10m6 : Method := { name := "equalsInAnyCase", desc := "(IILjava/lang/String;)Z", sig := { parameters := [.int, .int, (.object "java/lang/String")], returnType := some .boolean }, accessFlags := 2, code := some k10c6 }
def k10c7 : Code := { maxStack := 3, maxLocals := 3, code := prog_7_method_44_code, exceptionTable := #[], attributes := #[] }
def k10m7 : Method := { name := "sameInAnyCase", desc := "(II)Z", sig := { parameters := [.int, .int], returnType := some .boolean }, accessFlags := 10, code := some k10c7 }
def k10c8 : Code := { maxStack := 5, maxLocals := 2, code := prog_7_method_47_code, exceptionTable := #[], attributes := #[] }
def k10m8 : Method := { name := "room", desc := "(I)V", sig := { parameters := [.int], returnType := none }, accessFlags := 2, code := some k10c8 }
def k10c9 : Code := { maxStack := 4, maxLocals := 4, code := prog_7_method_48_code, exceptionTable := #[], attributes := #[] }
def k10m9 : Method := { name := "put", desc := "(Ljava/lang/String;)V", sig := { parameters := [(.object "java/lang/String")], returnType := none }, accessFlags := 2, code := some k10c9 }
/-- com/example/vipool/vipool/http/HttpHead -/
def k10 : Class := { plain "com/example/vipool/vipool/http/HttpHead" (some 0) with
  accessFlags := 33
  interfaces := #[]
  cf := some (fileOf pool10 1 #[] #[{ accessFlags := 1, nameIndex := 9, descriptorIndex := 10, attributes := #[] }, { accessFlags := 1, nameIndex := 441, descriptorIndex := 62, attributes := #[] }, { accessFlags := 1, nameIndex := 191, descriptorIndex := 445, attributes := #[] }, { accessFlags := 1, nameIndex := 272, descriptorIndex := 24, attributes := #[] }, { accessFlags := 2, nameIndex := 224, descriptorIndex := 225, attributes := #[] }, { accessFlags := 2, nameIndex := 153, descriptorIndex := 154, attributes := #[] }, { accessFlags := 2, nameIndex := 198, descriptorIndex := 199, attributes := #[] }, { accessFlags := 10, nameIndex := 341, descriptorIndex := 342, attributes := #[] }, { accessFlags := 2, nameIndex := 230, descriptorIndex := 231, attributes := #[] }, { accessFlags := 2, nameIndex := 221, descriptorIndex := 62, attributes := #[] }] 33 6 #[] #[{ accessFlags := 25, nameIndex := 391, descriptorIndex := 88, attributes := #[] }, { accessFlags := 25, nameIndex := 395, descriptorIndex := 88, attributes := #[] }, { accessFlags := 25, nameIndex := 398, descriptorIndex := 88, attributes := #[] }, { accessFlags := 25, nameIndex := 399, descriptorIndex := 88, attributes := #[] }, { accessFlags := 25, nameIndex := 400, descriptorIndex := 92, attributes := #[] }, { accessFlags := 26, nameIndex := 268, descriptorIndex := 269, attributes := #[] }, { accessFlags := 26, nameIndex := 366, descriptorIndex := 367, attributes := #[] }, { accessFlags := 26, nameIndex := 404, descriptorIndex := 92, attributes := #[] }, { accessFlags := 26, nameIndex := 406, descriptorIndex := 92, attributes := #[] }, { accessFlags := 26, nameIndex := 408, descriptorIndex := 92, attributes := #[] }, { accessFlags := 26, nameIndex := 409, descriptorIndex := 92, attributes := #[] }, { accessFlags := 26, nameIndex := 411, descriptorIndex := 92, attributes := #[] }, { accessFlags := 26, nameIndex := 413, descriptorIndex := 92, attributes := #[] }, { accessFlags := 26, nameIndex := 415, descriptorIndex := 92, attributes := #[] }, { accessFlags := 26, nameIndex := 416, descriptorIndex := 92, attributes := #[] }, { accessFlags := 2, nameIndex := 243, descriptorIndex := 244, attributes := #[] }, { accessFlags := 2, nameIndex := 13, descriptorIndex := 14, attributes := #[] }, { accessFlags := 2, nameIndex := 116, descriptorIndex := 92, attributes := #[] }, { accessFlags := 2, nameIndex := 247, descriptorIndex := 92, attributes := #[] }, { accessFlags := 2, nameIndex := 240, descriptorIndex := 92, attributes := #[] }, { accessFlags := 2, nameIndex := 134, descriptorIndex := 92, attributes := #[] }, { accessFlags := 2, nameIndex := 121, descriptorIndex := 92, attributes := #[] }, { accessFlags := 2, nameIndex := 124, descriptorIndex := 92, attributes := #[] }, { accessFlags := 2, nameIndex := 131, descriptorIndex := 92, attributes := #[] }, { accessFlags := 2, nameIndex := 84, descriptorIndex := 88, attributes := #[] }, { accessFlags := 2, nameIndex := 91, descriptorIndex := 92, attributes := #[] }, { accessFlags := 2, nameIndex := 76, descriptorIndex := 92, attributes := #[] }, { accessFlags := 2, nameIndex := 17, descriptorIndex := 18, attributes := #[] }, { accessFlags := 2, nameIndex := 98, descriptorIndex := 92, attributes := #[] }, { accessFlags := 2, nameIndex := 332, descriptorIndex := 92, attributes := #[] }, { accessFlags := 2, nameIndex := 335, descriptorIndex := 92, attributes := #[] }, { accessFlags := 2, nameIndex := 173, descriptorIndex := 92, attributes := #[] }, { accessFlags := 2, nameIndex := 176, descriptorIndex := 92, attributes := #[] }])
  fields := #[{ name := "CONTENT_LENGTH", type := (.object "java/lang/String"), accessFlags := 25, slot := 0, constantValue := 0 }, { name := "TRANSFER_ENCODING", type := (.object "java/lang/String"), accessFlags := 25, slot := 1, constantValue := 0 }, { name := "CONNECTION", type := (.object "java/lang/String"), accessFlags := 25, slot := 2, constantValue := 0 }, { name := "HOST", type := (.object "java/lang/String"), accessFlags := 25, slot := 3, constantValue := 0 }, { name := "KEPT_BYTES", type := .int, accessFlags := 25, slot := 4, constantValue := 0 }, { name := "METHODS", type := (.object "java/util/List"), accessFlags := 26, slot := 5, constantValue := 0 }, { name := "TOKEN", type := (.array .boolean), accessFlags := 26, slot := 6, constantValue := 0 }, { name := "SPAN", type := .int, accessFlags := 26, slot := 7, constantValue := 0 }, { name := "REMOVED", type := .int, accessFlags := 26, slot := 8, constantValue := 0 }, { name := "NO_QUERY", type := .int, accessFlags := 26, slot := 9, constantValue := 0 }, { name := "VERSION_BYTES", type := .int, accessFlags := 26, slot := 10, constantValue := 0 }, { name := "MOST_DIGITS", type := .int, accessFlags := 26, slot := 11, constantValue := 0 }, { name := "FIRST_BYTES", type := .int, accessFlags := 26, slot := 12, constantValue := 0 }, { name := "FIRST_FIELDS", type := .int, accessFlags := 26, slot := 13, constantValue := 0 }, { name := "KEPT_FIELDS", type := .int, accessFlags := 26, slot := 14, constantValue := 0 }, { name := "request", type := .boolean, accessFlags := 2, slot := 0, constantValue := 0 }, { name := "raw", type := (.array .byte), accessFlags := 2, slot := 1, constantValue := 0 }, { name := "used", type := .int, accessFlags := 2, slot := 2, constantValue := 0 }, { name := "firstEnd", type := .int, accessFlags := 2, slot := 3, constantValue := 0 }, { name := "secondStart", type := .int, accessFlags := 2, slot := 4, constantValue := 0 }, { name := "secondEnd", type := .int, accessFlags := 2, slot := 5, constantValue := 0 }, { name := "pathStart", type := .int, accessFlags := 2, slot := 6, constantValue := 0 }, { name := "pathEnd", type := .int, accessFlags := 2, slot := 7, constantValue := 0 }, { name := "queryStart", type := .int, accessFlags := 2, slot := 8, constantValue := 0 }, { name := "method", type := (.object "java/lang/String"), accessFlags := 2, slot := 9, constantValue := 0 }, { name := "status", type := .int, accessFlags := 2, slot := 10, constantValue := 0 }, { name := "minorVersion", type := .int, accessFlags := 2, slot := 11, constantValue := 0 }, { name := "spans", type := (.array .int), accessFlags := 2, slot := 12, constantValue := 0 }, { name := "fields", type := .int, accessFlags := 2, slot := 13, constantValue := 0 }, { name := "walkField", type := .int, accessFlags := 2, slot := 14, constantValue := 0 }, { name := "walkAt", type := .int, accessFlags := 2, slot := 15, constantValue := 0 }, { name := "memberStart", type := .int, accessFlags := 2, slot := 16, constantValue := 0 }, { name := "memberEnd", type := .int, accessFlags := 2, slot := 17, constantValue := 0 }]
  methods := #[k10m0, k10m1, k10m2, k10m3, k10m4, k10m5, k10m6, k10m7, k10m8, k10m9]
  instanceTypes := #[.boolean, (.array .byte), .int, .int, .int, .int, .int, .int, .int, (.object "java/lang/String"), .int, .int, (.array .int), .int, .int, .int, .int, .int]
  staticTypes := #[(.object "java/lang/String"), (.object "java/lang/String"), (.object "java/lang/String"), (.object "java/lang/String"), .int, (.object "java/util/List"), (.array .boolean), .int, .int, .int, .int, .int, .int, .int, .int]
  resolved := Array.replicate 474 none
  statics := none }

def pool11 : Array CpInfo := pool [(2, .class_ 4), (1, u "java/lang/Object"), (0, u "<init>"), (0, u "()V"), (17, .class_ 26), (1, u "jdk/internal/util/Preconditions"), (6, u "checkIndex"), (21, .class_ 56), (0, u "jdk/internal/util/Preconditions$4"), (57, .class_ 115), (0, u "jdk/internal/util/Preconditions$1"), (7, u "SIOOBE_FORMATTER"), (0, u "Ljava/util/function/BiFunction;"), (0, .class_ 126), (0, u "jdk/internal/util/Preconditions$2"), (3, u "AIOOBE_FORMATTER"), (0, .class_ 132), (0, u "jdk/internal/util/Preconditions$3"), (3, u "IOOBE_FORMATTER"), (41, u "(IILjava/util/function/BiFunction;)I")] 15

def k11m0 : Method := { name := "<init>", desc := "()V", sig := { parameters := [], returnType := none }, accessFlags := 1, code := none }
def k11c1 : Code := { maxStack := 3, maxLocals := 3, code := jdk_41_method_11_code, exceptionTable := #[], attributes := #[] }
def k11m1 : Method := { name := "checkIndex", desc := "(IILjava/util/function/BiFunction;)I", sig := { parameters := [.int, .int, (.object "java/util/function/BiFunction")], returnType := some .int }, accessFlags := 9, code := some k11c1 }
/-- jdk/internal/util/Preconditions -/
def k11 : Class := { plain "jdk/internal/util/Preconditions" (some 0) with
  accessFlags := 33
  interfaces := #[]
  cf := some (fileOf pool11 24 #[.nestMembers #[55, 131, 125, 114]] #[{ accessFlags := 1, nameIndex := 5, descriptorIndex := 6, attributes := #[] }, { accessFlags := 9, nameIndex := 33, descriptorIndex := 178, attributes := #[] }] 33 2 #[] #[{ accessFlags := 25, nameIndex := 123, descriptorIndex := 124, attributes := #[] }, { accessFlags := 25, nameIndex := 130, descriptorIndex := 124, attributes := #[] }, { accessFlags := 25, nameIndex := 136, descriptorIndex := 124, attributes := #[] }])
  fields := #[{ name := "SIOOBE_FORMATTER", type := (.object "java/util/function/BiFunction"), accessFlags := 25, slot := 0, constantValue := 0 }, { name := "AIOOBE_FORMATTER", type := (.object "java/util/function/BiFunction"), accessFlags := 25, slot := 1, constantValue := 0 }, { name := "IOOBE_FORMATTER", type := (.object "java/util/function/BiFunction"), accessFlags := 25, slot := 2, constantValue := 0 }]
  methods := #[k11m0, k11m1]
  instanceTypes := #[]
  staticTypes := #[(.object "java/util/function/BiFunction"), (.object "java/util/function/BiFunction"), (.object "java/util/function/BiFunction")]
  resolved := Array.replicate 194 none
  statics := some 1 }

def pool12 : Array CpInfo := pool [(9, u "<init>"), (6, .class_ 18), (1, u "java/lang/Object"), (0, u "()V"), (1, .class_ 23), (1, u "jdk/internal/util/ArraysSupport"), (0, u "LOG2_ARRAY_LONG_INDEX_SCALE"), (0, u "I"), (2, u "U"), (0, u "Ljdk/internal/misc/Unsafe;"), (8, u "BIG_ENDIAN"), (0, u "Z"), (8, u "LOG2_BYTE_BIT_SIZE"), (4, u "LOG2_ARRAY_INT_INDEX_SCALE"), (54, u "JLA"), (0, u "Ljdk/internal/access/JavaLangAccess;"), (11, u "LOG2_ARRAY_BOOLEAN_INDEX_SCALE"), (9, u "LOG2_ARRAY_BYTE_INDEX_SCALE"), (5, u "LOG2_ARRAY_CHAR_INDEX_SCALE"), (5, u "LOG2_ARRAY_SHORT_INDEX_SCALE"), (18, u "LOG2_ARRAY_FLOAT_INDEX_SCALE"), (24, u "LOG2_ARRAY_DOUBLE_INDEX_SCALE"), (89, u "T_BOOLEAN"), (2, u "T_CHAR"), (1, u "T_FLOAT"), (1, u "T_DOUBLE"), (1, u "T_BYTE"), (1, u "T_SHORT"), (1, u "T_INT"), (1, u "T_LONG"), (1, u "SOFT_MAX_ARRAY_LENGTH")] 83

def k12m0 : Method := { name := "<init>", desc := "()V", sig := { parameters := [], returnType := none }, accessFlags := 2, code := none }
/-- jdk/internal/util/ArraysSupport -/
def k12 : Class := { plain "jdk/internal/util/ArraysSupport" (some 0) with
  accessFlags := 33
  interfaces := #[]
  cf := some (fileOf pool12 21 #[] #[{ accessFlags := 2, nameIndex := 9, descriptorIndex := 19, attributes := #[] }] 33 16 #[] #[{ accessFlags := 24, nameIndex := 28, descriptorIndex := 29, attributes := #[] }, { accessFlags := 26, nameIndex := 38, descriptorIndex := 39, attributes := #[] }, { accessFlags := 25, nameIndex := 121, descriptorIndex := 25, attributes := #[] }, { accessFlags := 25, nameIndex := 131, descriptorIndex := 25, attributes := #[] }, { accessFlags := 25, nameIndex := 137, descriptorIndex := 25, attributes := #[] }, { accessFlags := 25, nameIndex := 143, descriptorIndex := 25, attributes := #[] }, { accessFlags := 25, nameIndex := 53, descriptorIndex := 25, attributes := #[] }, { accessFlags := 25, nameIndex := 24, descriptorIndex := 25, attributes := #[] }, { accessFlags := 25, nameIndex := 162, descriptorIndex := 25, attributes := #[] }, { accessFlags := 25, nameIndex := 187, descriptorIndex := 25, attributes := #[] }, { accessFlags := 26, nameIndex := 48, descriptorIndex := 25, attributes := #[] }, { accessFlags := 25, nameIndex := 277, descriptorIndex := 25, attributes := #[] }, { accessFlags := 25, nameIndex := 280, descriptorIndex := 25, attributes := #[] }, { accessFlags := 25, nameIndex := 282, descriptorIndex := 25, attributes := #[] }, { accessFlags := 25, nameIndex := 284, descriptorIndex := 25, attributes := #[] }, { accessFlags := 25, nameIndex := 286, descriptorIndex := 25, attributes := #[] }, { accessFlags := 25, nameIndex := 288, descriptorIndex := 25, attributes := #[] }, { accessFlags := 25, nameIndex := 290, descriptorIndex := 25, attributes := #[] }, { accessFlags := 25, nameIndex := 292, descriptorIndex := 25, attributes := #[] }, { accessFlags := 26, nameIndex := 108, descriptorIndex := 109, attributes := #[] }, { accessFlags := 25, nameIndex := 294, descriptorIndex := 25, attributes := #[] }])
  fields := #[{ name := "U", type := (.object "jdk/internal/misc/Unsafe"), accessFlags := 24, slot := 0, constantValue := 0 }, { name := "BIG_ENDIAN", type := .boolean, accessFlags := 26, slot := 1, constantValue := 0 }, { name := "LOG2_ARRAY_BOOLEAN_INDEX_SCALE", type := .int, accessFlags := 25, slot := 2, constantValue := 0 }, { name := "LOG2_ARRAY_BYTE_INDEX_SCALE", type := .int, accessFlags := 25, slot := 3, constantValue := 0 }, { name := "LOG2_ARRAY_CHAR_INDEX_SCALE", type := .int, accessFlags := 25, slot := 4, constantValue := 0 }, { name := "LOG2_ARRAY_SHORT_INDEX_SCALE", type := .int, accessFlags := 25, slot := 5, constantValue := 0 }, { name := "LOG2_ARRAY_INT_INDEX_SCALE", type := .int, accessFlags := 25, slot := 6, constantValue := 0 }, { name := "LOG2_ARRAY_LONG_INDEX_SCALE", type := .int, accessFlags := 25, slot := 7, constantValue := 0 }, { name := "LOG2_ARRAY_FLOAT_INDEX_SCALE", type := .int, accessFlags := 25, slot := 8, constantValue := 0 }, { name := "LOG2_ARRAY_DOUBLE_INDEX_SCALE", type := .int, accessFlags := 25, slot := 9, constantValue := 0 }, { name := "LOG2_BYTE_BIT_SIZE", type := .int, accessFlags := 26, slot := 10, constantValue := 0 }, { name := "T_BOOLEAN", type := .int, accessFlags := 25, slot := 11, constantValue := 0 }, { name := "T_CHAR", type := .int, accessFlags := 25, slot := 12, constantValue := 0 }, { name := "T_FLOAT", type := .int, accessFlags := 25, slot := 13, constantValue := 0 }, { name := "T_DOUBLE", type := .int, accessFlags := 25, slot := 14, constantValue := 0 }, { name := "T_BYTE", type := .int, accessFlags := 25, slot := 15, constantValue := 0 }, { name := "T_SHORT", type := .int, accessFlags := 25, slot := 16, constantValue := 0 }, { name := "T_INT", type := .int, accessFlags := 25, slot := 17, constantValue := 0 }, { name := "T_LONG", type := .int, accessFlags := 25, slot := 18, constantValue := 0 }, { name := "JLA", type := (.object "jdk/internal/access/JavaLangAccess"), accessFlags := 26, slot := 19, constantValue := 0 }, { name := "SOFT_MAX_ARRAY_LENGTH", type := .int, accessFlags := 25, slot := 20, constantValue := 0 }]
  methods := #[k12m0]
  instanceTypes := #[]
  staticTypes := #[(.object "jdk/internal/misc/Unsafe"), .boolean, .int, .int, .int, .int, .int, .int, .int, .int, .int, .int, .int, .int, .int, .int, .int, .int, .int, (.object "jdk/internal/access/JavaLangAccess"), .int]
  resolved := Array.replicate 378 none
  statics := none }

def pool13 : Array CpInfo := pool [(1, u "java/lang/Cloneable"), (0, .class_ 1), (0, u "java/lang/Object"), (0, .class_ 3)] 3

/-- java/lang/Cloneable -/
def k13 : Class := { plain "java/lang/Cloneable" (some 0) with
  accessFlags := 1537
  interfaces := #[]
  cf := some (fileOf pool13 2 #[] #[] 1537 4 #[] #[])
  fields := #[]
  methods := #[]
  instanceTypes := #[]
  staticTypes := #[]
  resolved := Array.replicate 8 none
  statics := none }

/-- the primitive byte -/
def k14 : Class := { plain "byte" none with kind := .primitive 'B', accessFlags := 0x411 }
/-- [B -/
def k15 : Class := { plain "[B" (some 0) with kind := .array 14 .byte, interfaces := #[13, 2], accessFlags := 1041 }

/-- the primitive char -/
def k16 : Class := { plain "char" none with kind := .primitive 'C', accessFlags := 0x411 }
/-- [C -/
def k17 : Class := { plain "[C" (some 0) with kind := .array 16 .char, interfaces := #[13, 2], accessFlags := 1041 }

/-- the primitive int -/
def k18 : Class := { plain "int" none with kind := .primitive 'I', accessFlags := 0x411 }
/-- [I -/
def k19 : Class := { plain "[I" (some 0) with kind := .array 18 .int, interfaces := #[13, 2], accessFlags := 1041 }

def heap : Heap := #[{ cls := 7, slots := #[.long 0, .int 1, .null, .int 0, .null, .int 0, .int 0], vm := .statics 7 },
  { cls := 11, slots := #[.null, .null, .null], vm := .statics 11 }]
def classes : Array Class := #[k0, k1, k2, k3, k4, k5, k6, k7, k8, k9, k10, k11, k12, k13, k14, k15, k16, k17, k18, k19]
def interned : List (Array UInt16 × Addr) := []
def slotsUsed : Nat := 10
def theMethod : MethodId := ⟨1, 1⟩
def args0 : Array Value := #[.int 5, .int 5, .int 5, .int 5, .int 5]
def aboutOver (below : List Frame) : State where
  vm := { classes := classes, interned := interned.toArray }
  heap := heap
  slotsUsed := slotsUsed
  threads := #[{ frames := .invoking theMethod args0 :: below }]
def below0 : List Frame := [.native { method := ⟨0, 0⟩, args := #[] }]
def about1 : State := aboutOver below0
def p0 : Program := .bare "" "" ""
def e0 : Env := launch0.env 0 0 0
theorem w_frames : about1.frames = Frame.invoking theMethod args0 :: below0 := rfl
set_option maxRecDepth 65536 in
theorem w_args : argsFit about1.vm theMethod args0 = true := by decide +kernel
set_option maxRecDepth 65536 in
theorem w_heap : heapFits about1 = true := by decide +kernel
set_option maxRecDepth 65536 in
theorem w_runnable : about1.curStatus? = some .runnable := by decide +kernel
set_option maxRecDepth 65536 in
theorem w_alone : about1.alone = true := by decide +kernel
set_option maxRecDepth 65536 in
theorem w_named : about1.methodNamed? x = some theMethod := by decide +kernel
set_option maxRecDepth 65536 in
theorem w_hears : about1.hears theMethod below0 = true := by decide +kernel
set_option maxRecDepth 65536 in
theorem w_ripe : about1.ripe theMethod args0 below0 = true := by decide +kernel
theorem w_running : about1.status = .running := rfl
set_option maxRecDepth 65536 in
theorem w_room : about1.hasRoom e0.platform room_1 = true :=
  launch0.hasRoom_least _ room_1 (by decide +kernel) (by decide +kernel) (by decide +kernel) (by decide +kernel) (by decide +kernel) (by decide +kernel)
theorem allAtoms_all (ts : List Jvm.Cond) (a : Array Jvm.Value) (st : Jvm.State) : (allAtoms ts).before a st = ts.all (fun c => c.before a st) := by
  induction ts with
  | nil => rfl
  | cons c t ih =>
    show (Jvm.Cond.and c (allAtoms t)).before a st = _
    rw [Jvm.Cond.before_and, ih, List.all_cons]
def words1 : List Jvm.Cond := Jvm.Cond.code x code maxLocals ret :: tables_1
/-- a 'code' word, met by the world's own term for the bytes: nothing is compared byte by byte -/
theorem code_word {y : MethodName} {bytes : ByteArray} {mx : Nat} {rt : Option FieldType} {a : Array Value} {s : State} {m : MethodId} {meth : Method} {c : Code} (h1 : s.methodNamed? y = some m) (h2 : s.vm.method? m = some meth) (h3 : meth.code = some c) (h4 : c.code = bytes)
    (h5 : (c.maxLocals == mx && c.exceptionTable.isEmpty && decide (c.maxStack ≤ mostOperands) && decide (meth.sig.returnType = rt) && !meth.locks && decide (parseMethodDescriptor y.desc = some meth.sig)) = true) : (Jvm.Cond.code y bytes mx rt).before a s = true := by
  simp only [Bool.and_eq_true, beq_iff_eq, Bool.not_eq_true', decide_eq_true_eq] at h5
  obtain ⟨⟨⟨⟨⟨g1, g2⟩, g3⟩, g4⟩, g5⟩, g6⟩ := h5
  simp [Cond.before, Cond.holds, Cond.value, h1, h2, h3, h4, g1, g2, g3, g4, g5, g6]
def isCode : Jvm.Cond → Bool
  | .code _ _ _ _ => true
  | _ => false
theorem all_split {L : List Jvm.Cond} {P : Jvm.Cond → Bool} (h1 : L.all (fun c => isCode c || P c) = true) (h2 : ∀ c ∈ L.filter isCode, P c = true) : L.all P = true := by
  refine List.all_eq_true.mpr fun c hc => ?_
  have h := List.all_eq_true.mp h1 c hc
  rcases Bool.eq_false_or_eq_true (isCode c) with hi | hi
  · exact h2 c (List.mem_filter.mpr ⟨hc, hi⟩)
  · simpa [hi] using h
set_option maxRecDepth 65536 in
theorem w_c0 : (Jvm.Cond.code x code maxLocals ret).before args0 about1 = true := code_word (m := ⟨1, 1⟩) (meth := k1m1) (c := k1c1) (by decide +kernel) rfl rfl rfl (by decide +kernel)
set_option maxRecDepth 65536 in
theorem w_c1 : (Jvm.Cond.code ({ cls := "com/example/vipool/vipool/http/HttpHeadSizePinLaw", name := "name", desc := "(I)Ljava/lang/String;" } : Jvm.MethodName) method_4_code (1 : Nat) (Option.some (Jvm.ClassFile.FieldType.object "java/lang/String"))).before args0 about1 = true := code_word (m := ⟨1, 3⟩) (meth := k1m3) (c := k1c3) (by decide +kernel) rfl rfl rfl (by decide +kernel)
set_option maxRecDepth 65536 in
theorem w_c2 : (Jvm.Cond.code ({ cls := "com/example/vipool/vipool/http/HttpHeadSizePinLaw", name := "letter", desc := "(I)C" } : Jvm.MethodName) method_3_code (2 : Nat) (Option.some Jvm.ClassFile.FieldType.char)).before args0 about1 = true := code_word (m := ⟨1, 2⟩) (meth := k1m2) (c := k1c2) (by decide +kernel) rfl rfl rfl (by decide +kernel)
set_option maxRecDepth 65536 in
theorem w_c3 : (Jvm.Cond.code ({ cls := "com/example/vipool/vipool/http/HttpHeadSizePinLaw", name := "str", desc := "(ICCC)Ljava/lang/String;" } : Jvm.MethodName) method_6_code (4 : Nat) (Option.some (Jvm.ClassFile.FieldType.object "java/lang/String"))).before args0 about1 = true := code_word (m := ⟨1, 5⟩) (meth := k1m5) (c := k1c5) (by decide +kernel) rfl rfl rfl (by decide +kernel)
set_option maxRecDepth 65536 in
theorem w_c4 : (Jvm.Cond.code ({ cls := "java/lang/String", name := "<init>", desc := "([C)V" } : Jvm.MethodName) jdk_42_method_3_code (2 : Nat) (Option.none : Option Jvm.ClassFile.FieldType)).before args0 about1 = true := code_word (m := ⟨7, 1⟩) (meth := k7m1) (c := k7c1) (by decide +kernel) rfl rfl rfl (by decide +kernel)
set_option maxRecDepth 65536 in
theorem w_c5 : (Jvm.Cond.code ({ cls := "java/lang/String", name := "<init>", desc := "([CIILjava/lang/Void;)V" } : Jvm.MethodName) jdk_42_method_149_code (6 : Nat) (Option.none : Option Jvm.ClassFile.FieldType)).before args0 about1 = true := code_word (m := ⟨7, 5⟩) (meth := k7m5) (c := k7c5) (by decide +kernel) rfl rfl rfl (by decide +kernel)
set_option maxRecDepth 65536 in
theorem w_c6 : (Jvm.Cond.code ({ cls := "java/lang/Object", name := "<init>", desc := "()V" } : Jvm.MethodName) object_method_1_code (1 : Nat) (Option.none : Option Jvm.ClassFile.FieldType)).before args0 about1 = true := code_word (m := ⟨0, 0⟩) (meth := k0m0) (c := k0c0) (by decide +kernel) rfl rfl rfl (by decide +kernel)
set_option maxRecDepth 65536 in
theorem w_c7 : (Jvm.Cond.code ({ cls := "com/example/vipool/vipool/http/HttpHeadSizePinLaw", name := "value", desc := "(I)Ljava/lang/String;" } : Jvm.MethodName) method_5_code (1 : Nat) (Option.some (Jvm.ClassFile.FieldType.object "java/lang/String"))).before args0 about1 = true := code_word (m := ⟨1, 4⟩) (meth := k1m4) (c := k1c4) (by decide +kernel) rfl rfl rfl (by decide +kernel)
set_option maxRecDepth 65536 in
theorem w_c8 : (Jvm.Cond.code ({ cls := "java/lang/StringUTF16", name := "compress", desc := "([CII)[B" } : Jvm.MethodName) jdk_52_method_16_code (6 : Nat) (Option.some (Jvm.ClassFile.FieldType.array Jvm.ClassFile.FieldType.byte))).before args0 about1 = true := code_word (m := ⟨8, 2⟩) (meth := k8m2) (c := k8c2) (by decide +kernel) rfl rfl rfl (by decide +kernel)
set_option maxRecDepth 65536 in
theorem w_c9 : (Jvm.Cond.code ({ cls := "java/lang/StringUTF16", name := "compress", desc := "([CI[BII)I" } : Jvm.MethodName) jdk_52_method_21_code (7 : Nat) (Option.some Jvm.ClassFile.FieldType.int)).before args0 about1 = true := code_word (m := ⟨8, 3⟩) (meth := k8m3) (c := k8c3) (by decide +kernel) rfl rfl rfl (by decide +kernel)
set_option maxRecDepth 65536 in
theorem w_c10 : (Jvm.Cond.code ({ cls := "java/lang/StringUTF16", name := "coderFromArrayLen", desc := "([BI)B" } : Jvm.MethodName) jdk_52_method_15_code (2 : Nat) (Option.some Jvm.ClassFile.FieldType.byte)).before args0 about1 = true := code_word (m := ⟨8, 1⟩) (meth := k8m1) (c := k8c1) (by decide +kernel) rfl rfl rfl (by decide +kernel)
set_option maxRecDepth 65536 in
theorem w_c11 : (Jvm.Cond.code ({ cls := "java/lang/String", name := "valueOf", desc := "(C)Ljava/lang/String;" } : Jvm.MethodName) jdk_42_method_139_code (1 : Nat) (Option.some (Jvm.ClassFile.FieldType.object "java/lang/String"))).before args0 about1 = true := code_word (m := ⟨7, 4⟩) (meth := k7m4) (c := k7c4) (by decide +kernel) rfl rfl rfl (by decide +kernel)
set_option maxRecDepth 65536 in
theorem w_c12 : (Jvm.Cond.code ({ cls := "java/lang/StringLatin1", name := "canEncode", desc := "(C)Z" } : Jvm.MethodName) jdk_43_method_3_code (1 : Nat) (Option.some Jvm.ClassFile.FieldType.boolean)).before args0 about1 = true := code_word (m := ⟨9, 2⟩) (meth := k9m2) (c := k9c2) (by decide +kernel) rfl rfl rfl (by decide +kernel)
set_option maxRecDepth 65536 in
theorem w_c13 : (Jvm.Cond.code ({ cls := "java/lang/StringLatin1", name := "toBytes", desc := "(C)[B" } : Jvm.MethodName) jdk_43_method_46_code (1 : Nat) (Option.some (Jvm.ClassFile.FieldType.array Jvm.ClassFile.FieldType.byte))).before args0 about1 = true := code_word (m := ⟨9, 3⟩) (meth := k9m3) (c := k9c3) (by decide +kernel) rfl rfl rfl (by decide +kernel)
set_option maxRecDepth 65536 in
theorem w_c14 : (Jvm.Cond.code ({ cls := "java/lang/String", name := "<init>", desc := "([BB)V" } : Jvm.MethodName) jdk_42_method_151_code (3 : Nat) (Option.none : Option Jvm.ClassFile.FieldType)).before args0 about1 = true := code_word (m := ⟨7, 6⟩) (meth := k7m6) (c := k7c6) (by decide +kernel) rfl rfl rfl (by decide +kernel)
set_option maxRecDepth 65536 in
theorem w_c15 : (Jvm.Cond.code ({ cls := "com/example/vipool/vipool/http/HttpHead", name := "<init>", desc := "()V" } : Jvm.MethodName) prog_7_method_1_code (1 : Nat) (Option.none : Option Jvm.ClassFile.FieldType)).before args0 about1 = true := code_word (m := ⟨10, 0⟩) (meth := k10m0) (c := k10c0) (by decide +kernel) rfl rfl rfl (by decide +kernel)
set_option maxRecDepth 65536 in
theorem w_c16 : (Jvm.Cond.code ({ cls := "com/example/vipool/vipool/http/HttpHead", name := "size", desc := "()I" } : Jvm.MethodName) prog_7_method_26_code (4 : Nat) (Option.some Jvm.ClassFile.FieldType.int)).before args0 about1 = true := code_word (m := ⟨10, 3⟩) (meth := k10m3) (c := k10c3) (by decide +kernel) rfl rfl rfl (by decide +kernel)
set_option maxRecDepth 65536 in
theorem w_c17 : (Jvm.Cond.code ({ cls := "com/example/vipool/vipool/http/HttpHead", name := "add", desc := "(Ljava/lang/String;Ljava/lang/String;)V" } : Jvm.MethodName) prog_7_method_24_code (5 : Nat) (Option.none : Option Jvm.ClassFile.FieldType)).before args0 about1 = true := code_word (m := ⟨10, 2⟩) (meth := k10m2) (c := k10c2) (by decide +kernel) rfl rfl rfl (by decide +kernel)
set_option maxRecDepth 65536 in
theorem w_c18 : (Jvm.Cond.code ({ cls := "com/example/vipool/vipool/http/HttpHead", name := "put", desc := "(Ljava/lang/String;)V" } : Jvm.MethodName) prog_7_method_48_code (4 : Nat) (Option.none : Option Jvm.ClassFile.FieldType)).before args0 about1 = true := code_word (m := ⟨10, 9⟩) (meth := k10m9) (c := k10c9) (by decide +kernel) rfl rfl rfl (by decide +kernel)
set_option maxRecDepth 65536 in
theorem w_c19 : (Jvm.Cond.code ({ cls := "java/lang/String", name := "length", desc := "()I" } : Jvm.MethodName) jdk_42_method_54_code (1 : Nat) (Option.some Jvm.ClassFile.FieldType.int)).before args0 about1 = true := code_word (m := ⟨7, 2⟩) (meth := k7m2) (c := k7c2) (by decide +kernel) rfl rfl rfl (by decide +kernel)
set_option maxRecDepth 65536 in
theorem w_c20 : (Jvm.Cond.code ({ cls := "java/lang/String", name := "coder", desc := "()B" } : Jvm.MethodName) jdk_42_method_152_code (1 : Nat) (Option.some Jvm.ClassFile.FieldType.byte)).before args0 about1 = true := code_word (m := ⟨7, 7⟩) (meth := k7m7) (c := k7c7) (by decide +kernel) rfl rfl rfl (by decide +kernel)
set_option maxRecDepth 65536 in
theorem w_c21 : (Jvm.Cond.code ({ cls := "com/example/vipool/vipool/http/HttpHead", name := "room", desc := "(I)V" } : Jvm.MethodName) prog_7_method_47_code (2 : Nat) (Option.none : Option Jvm.ClassFile.FieldType)).before args0 about1 = true := code_word (m := ⟨10, 8⟩) (meth := k10m8) (c := k10c8) (by decide +kernel) rfl rfl rfl (by decide +kernel)
set_option maxRecDepth 65536 in
theorem w_c22 : (Jvm.Cond.code ({ cls := "java/lang/String", name := "charAt", desc := "(I)C" } : Jvm.MethodName) jdk_42_method_56_code (2 : Nat) (Option.some Jvm.ClassFile.FieldType.char)).before args0 about1 = true := code_word (m := ⟨7, 3⟩) (meth := k7m3) (c := k7c3) (by decide +kernel) rfl rfl rfl (by decide +kernel)
set_option maxRecDepth 65536 in
theorem w_c23 : (Jvm.Cond.code ({ cls := "java/lang/String", name := "isLatin1", desc := "()Z" } : Jvm.MethodName) jdk_42_method_154_code (1 : Nat) (Option.some Jvm.ClassFile.FieldType.boolean)).before args0 about1 = true := code_word (m := ⟨7, 8⟩) (meth := k7m8) (c := k7c8) (by decide +kernel) rfl rfl rfl (by decide +kernel)
set_option maxRecDepth 65536 in
theorem w_c24 : (Jvm.Cond.code ({ cls := "java/lang/StringLatin1", name := "charAt", desc := "([BI)C" } : Jvm.MethodName) jdk_43_method_2_code (2 : Nat) (Option.some Jvm.ClassFile.FieldType.char)).before args0 about1 = true := code_word (m := ⟨9, 1⟩) (meth := k9m1) (c := k9c1) (by decide +kernel) rfl rfl rfl (by decide +kernel)
set_option maxRecDepth 65536 in
theorem w_c25 : (Jvm.Cond.code ({ cls := "java/lang/String", name := "checkIndex", desc := "(II)V" } : Jvm.MethodName) jdk_42_method_155_code (2 : Nat) (Option.none : Option Jvm.ClassFile.FieldType)).before args0 about1 = true := code_word (m := ⟨7, 9⟩) (meth := k7m9) (c := k7c9) (by decide +kernel) rfl rfl rfl (by decide +kernel)
set_option maxRecDepth 65536 in
theorem w_c26 : (Jvm.Cond.code ({ cls := "jdk/internal/util/Preconditions", name := "checkIndex", desc := "(IILjava/util/function/BiFunction;)I" } : Jvm.MethodName) jdk_41_method_11_code (3 : Nat) (Option.some Jvm.ClassFile.FieldType.int)).before args0 about1 = true := code_word (m := ⟨11, 1⟩) (meth := k11m1) (c := k11c1) (by decide +kernel) rfl rfl rfl (by decide +kernel)
set_option maxRecDepth 65536 in
theorem w_c27 : (Jvm.Cond.code ({ cls := "com/example/vipool/vipool/http/HttpHead", name := "span", desc := "(IIII)V" } : Jvm.MethodName) prog_7_method_35_code (6 : Nat) (Option.none : Option Jvm.ClassFile.FieldType)).before args0 about1 = true := code_word (m := ⟨10, 4⟩) (meth := k10m4) (c := k10c4) (by decide +kernel) rfl rfl rfl (by decide +kernel)
set_option maxRecDepth 65536 in
theorem w_c28 : (Jvm.Cond.code ({ cls := "com/example/vipool/vipool/http/HttpHead", name := "remove", desc := "(Ljava/lang/String;)V" } : Jvm.MethodName) prog_7_method_22_code (3 : Nat) (Option.none : Option Jvm.ClassFile.FieldType)).before args0 about1 = true := code_word (m := ⟨10, 1⟩) (meth := k10m1) (c := k10c1) (by decide +kernel) rfl rfl rfl (by decide +kernel)
set_option maxRecDepth 65536 in
theorem w_c29 : (Jvm.Cond.code ({ cls := "com/example/vipool/vipool/http/HttpHead", name := "named", desc := "(ILjava/lang/String;)Z" } : Jvm.MethodName) prog_7_method_42_code (4 : Nat) (Option.some Jvm.ClassFile.FieldType.boolean)).before args0 about1 = true := code_word (m := ⟨10, 5⟩) (meth := k10m5) (c := k10c5) (by decide +kernel) rfl rfl rfl (by decide +kernel)
set_option maxRecDepth 65536 in
theorem w_c30 : (Jvm.Cond.code ({ cls := "com/example/vipool/vipool/http/HttpHead", name := "equalsInAnyCase", desc := "(IILjava/lang/String;)Z" } : Jvm.MethodName) prog_7_method_43_code (5 : Nat) (Option.some Jvm.ClassFile.FieldType.boolean)).before args0 about1 = true := code_word (m := ⟨10, 6⟩) (meth := k10m6) (c := k10c6) (by decide +kernel) rfl rfl rfl (by decide +kernel)
set_option maxRecDepth 65536 in
theorem w_c31 : (Jvm.Cond.code ({ cls := "com/example/vipool/vipool/http/HttpHeadSizePinLaw", name := "same", desc := "(II)Z" } : Jvm.MethodName) method_7_code (6 : Nat) (Option.some Jvm.ClassFile.FieldType.boolean)).before args0 about1 = true := code_word (m := ⟨1, 6⟩) (meth := k1m6) (c := k1c6) (by decide +kernel) rfl rfl rfl (by decide +kernel)
set_option maxRecDepth 65536 in
theorem w_c32 : (Jvm.Cond.code ({ cls := "com/example/vipool/vipool/http/HttpHead", name := "sameInAnyCase", desc := "(II)Z" } : Jvm.MethodName) prog_7_method_44_code (3 : Nat) (Option.some Jvm.ClassFile.FieldType.boolean)).before args0 about1 = true := code_word (m := ⟨10, 7⟩) (meth := k10m7) (c := k10c7) (by decide +kernel) rfl rfl rfl (by decide +kernel)
def codes1 : List Jvm.Cond := [Jvm.Cond.code x code maxLocals ret, Jvm.Cond.code ({ cls := "com/example/vipool/vipool/http/HttpHeadSizePinLaw", name := "name", desc := "(I)Ljava/lang/String;" } : Jvm.MethodName) method_4_code (1 : Nat) (Option.some (Jvm.ClassFile.FieldType.object "java/lang/String")), Jvm.Cond.code ({ cls := "com/example/vipool/vipool/http/HttpHeadSizePinLaw", name := "letter", desc := "(I)C" } : Jvm.MethodName) method_3_code (2 : Nat) (Option.some Jvm.ClassFile.FieldType.char), Jvm.Cond.code ({ cls := "com/example/vipool/vipool/http/HttpHeadSizePinLaw", name := "str", desc := "(ICCC)Ljava/lang/String;" } : Jvm.MethodName) method_6_code (4 : Nat) (Option.some (Jvm.ClassFile.FieldType.object "java/lang/String")), Jvm.Cond.code ({ cls := "java/lang/String", name := "<init>", desc := "([C)V" } : Jvm.MethodName) jdk_42_method_3_code (2 : Nat) (Option.none : Option Jvm.ClassFile.FieldType), Jvm.Cond.code ({ cls := "java/lang/String", name := "<init>", desc := "([CIILjava/lang/Void;)V" } : Jvm.MethodName) jdk_42_method_149_code (6 : Nat) (Option.none : Option Jvm.ClassFile.FieldType), Jvm.Cond.code ({ cls := "java/lang/Object", name := "<init>", desc := "()V" } : Jvm.MethodName) object_method_1_code (1 : Nat) (Option.none : Option Jvm.ClassFile.FieldType), Jvm.Cond.code ({ cls := "com/example/vipool/vipool/http/HttpHeadSizePinLaw", name := "value", desc := "(I)Ljava/lang/String;" } : Jvm.MethodName) method_5_code (1 : Nat) (Option.some (Jvm.ClassFile.FieldType.object "java/lang/String")), Jvm.Cond.code ({ cls := "java/lang/StringUTF16", name := "compress", desc := "([CII)[B" } : Jvm.MethodName) jdk_52_method_16_code (6 : Nat) (Option.some (Jvm.ClassFile.FieldType.array Jvm.ClassFile.FieldType.byte)), Jvm.Cond.code ({ cls := "java/lang/StringUTF16", name := "compress", desc := "([CI[BII)I" } : Jvm.MethodName) jdk_52_method_21_code (7 : Nat) (Option.some Jvm.ClassFile.FieldType.int), Jvm.Cond.code ({ cls := "java/lang/StringUTF16", name := "coderFromArrayLen", desc := "([BI)B" } : Jvm.MethodName) jdk_52_method_15_code (2 : Nat) (Option.some Jvm.ClassFile.FieldType.byte), Jvm.Cond.code ({ cls := "java/lang/String", name := "valueOf", desc := "(C)Ljava/lang/String;" } : Jvm.MethodName) jdk_42_method_139_code (1 : Nat) (Option.some (Jvm.ClassFile.FieldType.object "java/lang/String")), Jvm.Cond.code ({ cls := "java/lang/StringLatin1", name := "canEncode", desc := "(C)Z" } : Jvm.MethodName) jdk_43_method_3_code (1 : Nat) (Option.some Jvm.ClassFile.FieldType.boolean), Jvm.Cond.code ({ cls := "java/lang/StringLatin1", name := "toBytes", desc := "(C)[B" } : Jvm.MethodName) jdk_43_method_46_code (1 : Nat) (Option.some (Jvm.ClassFile.FieldType.array Jvm.ClassFile.FieldType.byte)), Jvm.Cond.code ({ cls := "java/lang/String", name := "<init>", desc := "([BB)V" } : Jvm.MethodName) jdk_42_method_151_code (3 : Nat) (Option.none : Option Jvm.ClassFile.FieldType), Jvm.Cond.code ({ cls := "com/example/vipool/vipool/http/HttpHead", name := "<init>", desc := "()V" } : Jvm.MethodName) prog_7_method_1_code (1 : Nat) (Option.none : Option Jvm.ClassFile.FieldType), Jvm.Cond.code ({ cls := "com/example/vipool/vipool/http/HttpHead", name := "size", desc := "()I" } : Jvm.MethodName) prog_7_method_26_code (4 : Nat) (Option.some Jvm.ClassFile.FieldType.int), Jvm.Cond.code ({ cls := "com/example/vipool/vipool/http/HttpHead", name := "add", desc := "(Ljava/lang/String;Ljava/lang/String;)V" } : Jvm.MethodName) prog_7_method_24_code (5 : Nat) (Option.none : Option Jvm.ClassFile.FieldType), Jvm.Cond.code ({ cls := "com/example/vipool/vipool/http/HttpHead", name := "put", desc := "(Ljava/lang/String;)V" } : Jvm.MethodName) prog_7_method_48_code (4 : Nat) (Option.none : Option Jvm.ClassFile.FieldType), Jvm.Cond.code ({ cls := "java/lang/String", name := "length", desc := "()I" } : Jvm.MethodName) jdk_42_method_54_code (1 : Nat) (Option.some Jvm.ClassFile.FieldType.int), Jvm.Cond.code ({ cls := "java/lang/String", name := "coder", desc := "()B" } : Jvm.MethodName) jdk_42_method_152_code (1 : Nat) (Option.some Jvm.ClassFile.FieldType.byte), Jvm.Cond.code ({ cls := "com/example/vipool/vipool/http/HttpHead", name := "room", desc := "(I)V" } : Jvm.MethodName) prog_7_method_47_code (2 : Nat) (Option.none : Option Jvm.ClassFile.FieldType), Jvm.Cond.code ({ cls := "java/lang/String", name := "charAt", desc := "(I)C" } : Jvm.MethodName) jdk_42_method_56_code (2 : Nat) (Option.some Jvm.ClassFile.FieldType.char), Jvm.Cond.code ({ cls := "java/lang/String", name := "isLatin1", desc := "()Z" } : Jvm.MethodName) jdk_42_method_154_code (1 : Nat) (Option.some Jvm.ClassFile.FieldType.boolean), Jvm.Cond.code ({ cls := "java/lang/StringLatin1", name := "charAt", desc := "([BI)C" } : Jvm.MethodName) jdk_43_method_2_code (2 : Nat) (Option.some Jvm.ClassFile.FieldType.char), Jvm.Cond.code ({ cls := "java/lang/String", name := "checkIndex", desc := "(II)V" } : Jvm.MethodName) jdk_42_method_155_code (2 : Nat) (Option.none : Option Jvm.ClassFile.FieldType), Jvm.Cond.code ({ cls := "jdk/internal/util/Preconditions", name := "checkIndex", desc := "(IILjava/util/function/BiFunction;)I" } : Jvm.MethodName) jdk_41_method_11_code (3 : Nat) (Option.some Jvm.ClassFile.FieldType.int), Jvm.Cond.code ({ cls := "com/example/vipool/vipool/http/HttpHead", name := "span", desc := "(IIII)V" } : Jvm.MethodName) prog_7_method_35_code (6 : Nat) (Option.none : Option Jvm.ClassFile.FieldType), Jvm.Cond.code ({ cls := "com/example/vipool/vipool/http/HttpHead", name := "remove", desc := "(Ljava/lang/String;)V" } : Jvm.MethodName) prog_7_method_22_code (3 : Nat) (Option.none : Option Jvm.ClassFile.FieldType), Jvm.Cond.code ({ cls := "com/example/vipool/vipool/http/HttpHead", name := "named", desc := "(ILjava/lang/String;)Z" } : Jvm.MethodName) prog_7_method_42_code (4 : Nat) (Option.some Jvm.ClassFile.FieldType.boolean), Jvm.Cond.code ({ cls := "com/example/vipool/vipool/http/HttpHead", name := "equalsInAnyCase", desc := "(IILjava/lang/String;)Z" } : Jvm.MethodName) prog_7_method_43_code (5 : Nat) (Option.some Jvm.ClassFile.FieldType.boolean), Jvm.Cond.code ({ cls := "com/example/vipool/vipool/http/HttpHeadSizePinLaw", name := "same", desc := "(II)Z" } : Jvm.MethodName) method_7_code (6 : Nat) (Option.some Jvm.ClassFile.FieldType.boolean), Jvm.Cond.code ({ cls := "com/example/vipool/vipool/http/HttpHead", name := "sameInAnyCase", desc := "(II)Z" } : Jvm.MethodName) prog_7_method_44_code (3 : Nat) (Option.some Jvm.ClassFile.FieldType.boolean)]
set_option maxRecDepth 65536 in
theorem codes_eq : words1.filter isCode = codes1 := rfl
theorem w_codes : ∀ c ∈ words1.filter isCode, c.before args0 about1 = true := by
  rw [codes_eq]
  intro c hc
  simp only [codes1, List.mem_cons, List.not_mem_nil, or_false] at hc
  rcases hc with rfl | rfl | rfl | rfl | rfl | rfl | rfl | rfl | rfl | rfl | rfl | rfl | rfl | rfl | rfl | rfl | rfl | rfl | rfl | rfl | rfl | rfl | rfl | rfl | rfl | rfl | rfl | rfl | rfl | rfl | rfl | rfl | rfl
  · exact w_c0
  · exact w_c1
  · exact w_c2
  · exact w_c3
  · exact w_c4
  · exact w_c5
  · exact w_c6
  · exact w_c7
  · exact w_c8
  · exact w_c9
  · exact w_c10
  · exact w_c11
  · exact w_c12
  · exact w_c13
  · exact w_c14
  · exact w_c15
  · exact w_c16
  · exact w_c17
  · exact w_c18
  · exact w_c19
  · exact w_c20
  · exact w_c21
  · exact w_c22
  · exact w_c23
  · exact w_c24
  · exact w_c25
  · exact w_c26
  · exact w_c27
  · exact w_c28
  · exact w_c29
  · exact w_c30
  · exact w_c31
  · exact w_c32
set_option maxRecDepth 65536 in
theorem w_t1 : (words1.take 24).all (fun c => isCode c || c.before args0 about1) = true := by decide +kernel
set_option maxRecDepth 65536 in
theorem w_t2 : ((words1.drop 24).take 24).all (fun c => isCode c || c.before args0 about1) = true := by decide +kernel
set_option maxRecDepth 65536 in
theorem w_t3 : (((words1.drop 24).drop 24).take 24).all (fun c => isCode c || c.before args0 about1) = true := by decide +kernel
set_option maxRecDepth 65536 in
theorem w_t4 : ((((words1.drop 24).drop 24).drop 24).take 24).all (fun c => isCode c || c.before args0 about1) = true := by decide +kernel
set_option maxRecDepth 65536 in
theorem w_t5 : (((((words1.drop 24).drop 24).drop 24).drop 24).take 24).all (fun c => isCode c || c.before args0 about1) = true := by decide +kernel
set_option maxRecDepth 65536 in
theorem w_t6 : ((((((words1.drop 24).drop 24).drop 24).drop 24).drop 24).take 24).all (fun c => isCode c || c.before args0 about1) = true := by decide +kernel
set_option maxRecDepth 65536 in
theorem w_t7 : ((((((words1.drop 24).drop 24).drop 24).drop 24).drop 24).drop 24).all (fun c => isCode c || c.before args0 about1) = true := by decide +kernel
theorem w_tables : (allAtoms (Jvm.Cond.code x code maxLocals ret :: tables_1)).before args0 about1 = true := by
  rw [allAtoms_all]
  show words1.all (fun c => c.before args0 about1) = true
  refine all_split ?_ w_codes
  rw [← List.take_append_drop 24 words1, List.all_append, w_t1, ← List.take_append_drop 24 (words1.drop 24), List.all_append, w_t2, ← List.take_append_drop 24 ((words1.drop 24).drop 24), List.all_append, w_t3, ← List.take_append_drop 24 (((words1.drop 24).drop 24).drop 24), List.all_append, w_t4, ← List.take_append_drop 24 ((((words1.drop 24).drop 24).drop 24).drop 24), List.all_append, w_t5, ← List.take_append_drop 24 (((((words1.drop 24).drop 24).drop 24).drop 24).drop 24), List.all_append, w_t6, w_t7]
  rfl
set_option maxRecDepth 65536 in
theorem w_rest : rest_1_c.before args0 about1 = true := by decide +kernel
set_option maxRecDepth 65536 in
theorem w_case : (Jvm.Cond.and given_1 narrow_1).before args0 about1 = true := by decide +kernel
set_option maxRecDepth 65536 in
theorem w_consts : constsHeld consts_1 about1 := Jvm.Lit.constsHeldB_iff.mp (by decide +kernel)
theorem w_applies : (headSpec (Jvm.Cond.code x code maxLocals ret :: tables_1) room_1).applies x e0.platform about1 = true :=
  (Spec.applies_iff w_frames).mpr ⟨w_running, w_runnable, w_alone, w_named, w_hears, w_ripe, w_room, w_tables⟩
theorem atStart : AtStart classFile x code maxLocals ret World_1 tables_1 room_1 Calls_1 rest_1 Pre_1 launch0 p0 e0 about1 theMethod args0 below0 :=
  ⟨lists_1, trivial, launch0.admits_env _ _ _, launch0.least_env, fairChoices_fair.cas, fairChoices_fair.clock, w_frames, w_args, w_heap, w_applies, ⟨w_consts, trivial⟩, w_rest, w_case⟩
end start1
theorem witness_1 : WitnessClaimed_1 := ⟨start1.p0, start1.e0, start1.about1, start1.theMethod, start1.args0, start1.below0, start1.atStart⟩
end Jvm.Pilot.@@N@@

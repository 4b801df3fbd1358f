import JvmDerived
import JvmDerived.Pilot.@@N@@Statement
import JvmDerived.Pilot.@@N@@Code
set_option linter.unusedVariables false
set_option linter.unusedSimpArgs false
namespace Jvm.Pilot.@@N@@
open Jvm Jvm.ClassFile Sem Op Lib Jvm.Free Jvm.Stand Jvm.LawKit Jvm.RoadKit Bundle Jvm.Pilot.@@N@@.Jvm.D
/-! THE LAYER own_: 'Ends': from this state the body ends as Q says; one lemma an instruction, over frames in the form mkF -/
section Own
variable {p : Program} {l : Launch} {e : Env} {R : Room} {s : State} {m : MethodId} {args : Array Value} {below : List Frame} {meth : Method} {c : Code} {T : State} {locs : List Loc} {cells slots : Nat}
variable {Q : Option Value → Heap → List Loc → Prop} {C S : Nat} {bc : ByteArray} {pc pc' : Nat} {Ls Ls' : Array Slot} {st : List Value} {Fz : Outcome → State → Prop}
def Ends (tb : Tables) (e : Env) (below : List Frame) (Fz : Outcome → State → Prop) (t : State) : Prop :=
  ∃ s₂ o, Steps tb e below t s₂ ∧ s₂.status = .running ∧ Ended s₂ below o ∧ Fz o s₂
def OwnFin (s : State) (Q : Option Value → Heap → List Loc → Prop) (C S : Nat) (o : Outcome) (s₂ : State) : Prop := ∃ v L, o = .returned v ∧ Q v s₂.heap L ∧ FrameEnd s o s₂ L C S
theorem Ends.of {tb : Tables} {t t' : State} (st : ∀ target, Steps tb e below t' target → Steps tb e below t target) (k : Ends tb e below Fz t') : Ends tb e below Fz t := by
  obtain ⟨s₂, o, h1, h2⟩ := k
  exact ⟨s₂, o, st _ h1, h2⟩
theorem Ends.tr {tb : Tables} {t t' : State} (st : Steps tb e below t t') (k : Ends tb e below Fz t') : Ends tb e below Fz t := Ends.of (fun _ q => st.trans q) k
theorem own_iloadN (X : Stand p l e R s m args below meth c T locs cells slots) (hx : p.tables.exec = Jvm.exec) (hby : c.code = bc) {k : Fin 4} {v : Int32} (hd : decode bc pc = .ok (.iload_n k, 1)) (hp : pc + 1 = pc') (hl : Ls[k.val]? = some (.val (.int v)))
    (kt : Ends p.tables e below Fz (T.setTop (mkF m pc' Ls (.int v :: st)))) : Ends p.tables e below Fz (T.setTop (mkF m pc Ls st)) := by
  subst hp; exact Ends.of (fun _ q => XS.iloadN X.here hx rfl (hb hby hd) hl q) kt
theorem own_iload (X : Stand p l e R s m args below meth c T locs cells slots) (hx : p.tables.exec = Jvm.exec) (hby : c.code = bc) {k : Nat} {v : Int32} (hd : decode bc pc = .ok (.iload k, 2)) (hp : pc + 2 = pc') (hl : Ls[k]? = some (.val (.int v)))
    (kt : Ends p.tables e below Fz (T.setTop (mkF m pc' Ls (.int v :: st)))) : Ends p.tables e below Fz (T.setTop (mkF m pc Ls st)) := by
  subst hp; exact Ends.of (fun _ q => XS.iload X.here hx rfl (hb hby hd) hl q) kt
theorem own_istoreN (X : Stand p l e R s m args below meth c T locs cells slots) (hx : p.tables.exec = Jvm.exec) (hby : c.code = bc) {k : Fin 4} {v : Int32} (hd : decode bc pc = .ok (.istore_n k, 1)) (hp : pc + 1 = pc') (Ls' : Array Slot) (hl : storeLocals Ls k.val (.int v) = some Ls')
    (kt : Ends p.tables e below Fz (T.setTop (mkF m pc' Ls' st))) : Ends p.tables e below Fz (T.setTop (mkF m pc Ls (.int v :: st))) := by
  subst hp; exact Ends.of (fun _ q => XS.istoreN X.here hx rfl (hb hby hd) rfl hl q) kt
theorem own_istore (X : Stand p l e R s m args below meth c T locs cells slots) (hx : p.tables.exec = Jvm.exec) (hby : c.code = bc) {k : Nat} {v : Int32} (hd : decode bc pc = .ok (.istore k, 2)) (hp : pc + 2 = pc') (Ls' : Array Slot) (hl : storeLocals Ls k (.int v) = some Ls')
    (kt : Ends p.tables e below Fz (T.setTop (mkF m pc' Ls' st))) : Ends p.tables e below Fz (T.setTop (mkF m pc Ls (.int v :: st))) := by
  subst hp; exact Ends.of (fun _ q => XS.istore X.here hx rfl (hb hby hd) rfl hl q) kt
theorem own_iconst (X : Stand p l e R s m args below meth c T locs cells slots) (hx : p.tables.exec = Jvm.exec) (hby : c.code = bc) {i : Int} (hd : decode bc pc = .ok (.iconst i, 1)) (hp : pc + 1 = pc') (v : Int32) (hv : Int32.ofInt i = v)
    (kt : Ends p.tables e below Fz (T.setTop (mkF m pc' Ls (.int v :: st)))) : Ends p.tables e below Fz (T.setTop (mkF m pc Ls st)) := by
  subst hp; exact Ends.of (fun _ q => by subst hv; exact XS.iconst X.here hx rfl (hb hby hd) q) kt
theorem own_bipush (X : Stand p l e R s m args below meth c T locs cells slots) (hx : p.tables.exec = Jvm.exec) (hby : c.code = bc) {i : Int} (hd : decode bc pc = .ok (.bipush i, 2)) (hp : pc + 2 = pc') (v : Int32) (hv : (Int8.ofInt i).toInt32 = v)
    (kt : Ends p.tables e below Fz (T.setTop (mkF m pc' Ls (.int v :: st)))) : Ends p.tables e below Fz (T.setTop (mkF m pc Ls st)) := by
  subst hp; exact Ends.of (fun _ q => by subst hv; exact XS.bipush X.here hx rfl (hb hby hd) q) kt
theorem own_sipush (X : Stand p l e R s m args below meth c T locs cells slots) (hx : p.tables.exec = Jvm.exec) (hby : c.code = bc) {i : Int} (hd : decode bc pc = .ok (.sipush i, 3)) (hp : pc + 3 = pc') (v : Int32) (hv : (Int16.ofInt i).toInt32 = v)
    (kt : Ends p.tables e below Fz (T.setTop (mkF m pc' Ls (.int v :: st)))) : Ends p.tables e below Fz (T.setTop (mkF m pc Ls st)) := by
  subst hp; exact Ends.of (fun _ q => by subst hv; exact XS.sipush X.here hx rfl (hb hby hd) q) kt
theorem own_iadd (X : Stand p l e R s m args below meth c T locs cells slots) (hx : p.tables.exec = Jvm.exec) (hby : c.code = bc) {x y : Int32} (hd : decode bc pc = .ok (.iadd, 1)) (hp : pc + 1 = pc')
    (kt : Ends p.tables e below Fz (T.setTop (mkF m pc' Ls (.int (x + y) :: st)))) : Ends p.tables e below Fz (T.setTop (mkF m pc Ls (.int y :: .int x :: st))) := by
  subst hp; exact Ends.of (fun _ q => XS.iadd X.here hx rfl (hb hby hd) rfl q) kt
theorem own_iand (X : Stand p l e R s m args below meth c T locs cells slots) (hx : p.tables.exec = Jvm.exec) (hby : c.code = bc) {x y : Int32} (hd : decode bc pc = .ok (.iand, 1)) (hp : pc + 1 = pc')
    (kt : Ends p.tables e below Fz (T.setTop (mkF m pc' Ls (.int (x &&& y) :: st)))) : Ends p.tables e below Fz (T.setTop (mkF m pc Ls (.int y :: .int x :: st))) := by
  subst hp; exact Ends.of (fun _ q => XS.iand X.here hx rfl (hb hby hd) rfl q) kt
theorem own_iushr (X : Stand p l e R s m args below meth c T locs cells slots) (hx : p.tables.exec = Jvm.exec) (hby : c.code = bc) {x : Int32} {y : Int32} (hd : decode bc pc = .ok (.iushr, 1)) (hp : pc + 1 = pc')
    (kt : Ends p.tables e below Fz (T.setTop (mkF m pc' Ls (.int ((x.toUInt32 >>> (y &&& 31).toUInt32).toInt32) :: st)))) : Ends p.tables e below Fz (T.setTop (mkF m pc Ls (.int y :: .int x :: st))) := by
  subst hp; exact Ends.of (fun _ q => Jvm.Free.XT.iushr X.here hx rfl (hb hby hd) rfl q) kt
theorem own_idiv (X : Stand p l e R s m args below meth c T locs cells slots) (hx : p.tables.exec = Jvm.exec) (hby : c.code = bc) {x y : Int32} (hd : decode bc pc = .ok (.idiv, 1)) (hp : pc + 1 = pc') (hy : y ≠ 0)
    (kt : Ends p.tables e below Fz (T.setTop (mkF m pc' Ls (.int (x / y) :: st)))) : Ends p.tables e below Fz (T.setTop (mkF m pc Ls (.int y :: .int x :: st))) := by
  subst hp; exact Ends.of (fun _ q => XS.idiv X.here hx rfl (hb hby hd) rfl hy q) kt
theorem own_irem (X : Stand p l e R s m args below meth c T locs cells slots) (hx : p.tables.exec = Jvm.exec) (hby : c.code = bc) {x y : Int32} (hd : decode bc pc = .ok (.irem, 1)) (hp : pc + 1 = pc') (hy : y ≠ 0)
    (kt : Ends p.tables e below Fz (T.setTop (mkF m pc' Ls (.int (x % y) :: st)))) : Ends p.tables e below Fz (T.setTop (mkF m pc Ls (.int y :: .int x :: st))) := by
  subst hp; exact Ends.of (fun _ q => iremM X hx rfl (hb hby hd) rfl hy q) kt
theorem own_goto (X : Stand p l e R s m args below meth c T locs cells slots) (hx : p.tables.exec = Jvm.exec) (hby : c.code = bc) {o : Int} (hd : decode bc pc = .ok (.goto o, 3)) (hp : (pc : Int) + o = (pc' : Int)) (kt : Ends p.tables e below Fz (T.setTop (mkF m pc' Ls st))) : Ends p.tables e below Fz (T.setTop (mkF m pc Ls st)) :=
  Ends.of (fun _ q => XS.goto X.here hx rfl (pc0 := pc) (pc' := pc') rfl (hb hby hd) (by rw [hp]; exact Int.natCast_nonneg _) (by rw [hp]; rfl) q) kt
theorem own_icmp_eq (X : Stand p l e R s m args below meth c T locs cells slots) (hx : p.tables.exec = Jvm.exec) (hby : c.code = bc) {x y : Int32} {o : Int} {pcY pcN : Nat} (hd : decode bc pc = .ok (.if_icmp .eq o, 3)) (hpY : (pc : Int) + o = (pcY : Int)) (hpN : pc + 3 = pcN) (kY : x = y → Ends p.tables e below Fz (T.setTop (mkF m pcY Ls st))) (kN : ¬ x = y → Ends p.tables e below Fz (T.setTop (mkF m pcN Ls st))) : Ends p.tables e below Fz (T.setTop (mkF m pc Ls (.int y :: .int x :: st))) := by
  subst hpN; by_cases h : x = y
  · exact Ends.of (fun _ q => XS.icmpYes X.here hx rfl (pc0 := pc) (pc' := pcY) rfl (hb hby hd) rfl (Jvm.Free.XT.ii_eq_t h) (by rw [hpY]; exact Int.natCast_nonneg _) (by rw [hpY]; rfl) q) (kY h)
  · exact Ends.of (fun _ q => XS.icmpNo X.here hx rfl (hb hby hd) rfl (Jvm.Free.XT.ii_eq_f h) q) (kN h)
theorem own_icmp_ne (X : Stand p l e R s m args below meth c T locs cells slots) (hx : p.tables.exec = Jvm.exec) (hby : c.code = bc) {x y : Int32} {o : Int} {pcY pcN : Nat} (hd : decode bc pc = .ok (.if_icmp .ne o, 3)) (hpY : (pc : Int) + o = (pcY : Int)) (hpN : pc + 3 = pcN) (kY : ¬ x = y → Ends p.tables e below Fz (T.setTop (mkF m pcY Ls st))) (kN : x = y → Ends p.tables e below Fz (T.setTop (mkF m pcN Ls st))) : Ends p.tables e below Fz (T.setTop (mkF m pc Ls (.int y :: .int x :: st))) := by
  subst hpN; by_cases h : x = y
  · exact Ends.of (fun _ q => XS.icmpNo X.here hx rfl (hb hby hd) rfl (Jvm.Free.XT.ii_ne_f h) q) (kN h)
  · exact Ends.of (fun _ q => XS.icmpYes X.here hx rfl (pc0 := pc) (pc' := pcY) rfl (hb hby hd) rfl (Jvm.Free.XT.ii_ne_t h) (by rw [hpY]; exact Int.natCast_nonneg _) (by rw [hpY]; rfl) q) (kY h)
theorem own_icmp_lt (X : Stand p l e R s m args below meth c T locs cells slots) (hx : p.tables.exec = Jvm.exec) (hby : c.code = bc) {x y : Int32} {o : Int} {pcY pcN : Nat} (hd : decode bc pc = .ok (.if_icmp .lt o, 3)) (hpY : (pc : Int) + o = (pcY : Int)) (hpN : pc + 3 = pcN) (kY : x.toInt < y.toInt → Ends p.tables e below Fz (T.setTop (mkF m pcY Ls st))) (kN : y.toInt ≤ x.toInt → Ends p.tables e below Fz (T.setTop (mkF m pcN Ls st))) : Ends p.tables e below Fz (T.setTop (mkF m pc Ls (.int y :: .int x :: st))) := by
  subst hpN; by_cases h : x < y
  · exact Ends.of (fun _ q => XS.icmpYes X.here hx rfl (pc0 := pc) (pc' := pcY) rfl (hb hby hd) rfl (Jvm.Free.XT.ii_lt_t h) (by rw [hpY]; exact Int.natCast_nonneg _) (by rw [hpY]; rfl) q) (kY (Int32.lt_iff_toInt_lt.mp h))
  · exact Ends.of (fun _ q => XS.icmpNo X.here hx rfl (hb hby hd) rfl (Jvm.Free.XT.ii_lt_f h) q) (kN (Int.not_lt.mp fun q => h (Int32.lt_iff_toInt_lt.mpr q)))
theorem own_icmp_gt (X : Stand p l e R s m args below meth c T locs cells slots) (hx : p.tables.exec = Jvm.exec) (hby : c.code = bc) {x y : Int32} {o : Int} {pcY pcN : Nat} (hd : decode bc pc = .ok (.if_icmp .gt o, 3)) (hpY : (pc : Int) + o = (pcY : Int)) (hpN : pc + 3 = pcN) (kY : y.toInt < x.toInt → Ends p.tables e below Fz (T.setTop (mkF m pcY Ls st))) (kN : x.toInt ≤ y.toInt → Ends p.tables e below Fz (T.setTop (mkF m pcN Ls st))) : Ends p.tables e below Fz (T.setTop (mkF m pc Ls (.int y :: .int x :: st))) := by
  subst hpN; by_cases h : y < x
  · exact Ends.of (fun _ q => XS.icmpYes X.here hx rfl (pc0 := pc) (pc' := pcY) rfl (hb hby hd) rfl (Jvm.Free.XT.ii_gt_t h) (by rw [hpY]; exact Int.natCast_nonneg _) (by rw [hpY]; rfl) q) (kY (Int32.lt_iff_toInt_lt.mp h))
  · exact Ends.of (fun _ q => XS.icmpNo X.here hx rfl (hb hby hd) rfl (Jvm.Free.XT.ii_gt_f h) q) (kN (Int.not_lt.mp fun q => h (Int32.lt_iff_toInt_lt.mpr q)))
theorem own_if_eq (X : Stand p l e R s m args below meth c T locs cells slots) (hx : p.tables.exec = Jvm.exec) (hby : c.code = bc) {x : Int32} {o : Int} {pcY pcN : Nat} (hd : decode bc pc = .ok (.ifCond .eq o, 3)) (hpY : (pc : Int) + o = (pcY : Int)) (hpN : pc + 3 = pcN) (kY : x = 0 → Ends p.tables e below Fz (T.setTop (mkF m pcY Ls st))) (kN : ¬ x = 0 → Ends p.tables e below Fz (T.setTop (mkF m pcN Ls st))) : Ends p.tables e below Fz (T.setTop (mkF m pc Ls (.int x :: st))) := by
  subst hpN; by_cases h : x = (0 : Int32)
  · exact Ends.of (fun _ q => XS.ifYes X.here hx rfl (pc0 := pc) (pc' := pcY) rfl (hb hby hd) rfl (Jvm.Free.XT.i0_eq_t h) (by rw [hpY]; exact Int.natCast_nonneg _) (by rw [hpY]; rfl) q) (kY h)
  · exact Ends.of (fun _ q => XS.ifNo X.here hx rfl (hb hby hd) rfl (Jvm.Free.XT.i0_eq_f h) q) (kN h)
theorem own_ret (X : Stand p l e R s m args below meth c T locs cells slots) (hx : p.tables.exec = Jvm.exec) (hby : c.code = bc) {v : Value} {t : FieldType} {i : Instr} (hret : meth.sig.returnType = some t) (hk : meth.locks = false) (hd : decode bc pc = .ok (i, 1)) (v' : Value) (hn : narrow t v = v')
    (hi : (i = .ireturn ∧ (t = .int ∨ t = .boolean ∨ t = .byte ∨ t = .char ∨ t = .short) ∧ ∃ z, v = .int z) ∨ (i = .lreturn ∧ t = .long ∧ ∃ z, v = .long z) ∨ (i = .areturn ∧ t.isReference = true ∧ v.isRef = true))
    (hC : cells ≤ C) (hS : slots ≤ S) (q : Q (some v') T.heap locs) : Ends p.tables e below (OwnFin s Q C S) (T.setTop (mkF m pc Ls (v :: st))) := by
  obtain ⟨fs, hr, hrun, hended, hW, hsame⟩ := X.leave (v := some v') (fun h => by rw [hret] at h; cases h) hk
  refine ⟨_, _, ?_, hrun, hended, _, _, rfl, q, ⟨_, rfl⟩, hW, hsame.mono hC hS⟩
  have hm' : T.vm.method? m = some meth := X.method'
  show Steps p.tables e below (T.setTop { method := m, pc := pc, locals := Ls, stack := v :: st, locked := none }) _
  have hd' := hb hby hd
  rcases hi with ⟨rfl, ht, z, rfl⟩ | ⟨rfl, rfl, z, rfl⟩ | ⟨rfl, ht, hv⟩
  · rcases ht with rfl | rfl | rfl | rfl | rfl <;> (jvm_step X.here [X.here.top, hx, hd', hm', hret, hn]; first | (intro acts; rw [hr _ acts rfl rfl rfl]) | rw [hr _ _ rfl rfl rfl]) <;> exact Steps.refl _
  · have hn2 : Value.long z = v' := hn
    subst hn2
    jvm_step X.here [X.here.top, hx, hd', hm', hret, hn]
    first | (intro acts; rw [hr _ acts rfl rfl rfl]) | rw [hr _ _ rfl rfl rfl]
    exact Steps.refl _
  · have hn2 : v = v' := by rw [← hn]; rcases ref_cases hv with rfl | ⟨z, rfl⟩ <;> cases t <;> rfl
    subst hn2
    jvm_step X.here [X.here.top, hx, hd', hm', hret, hn, ht, hv]
    first | (intro acts; rw [hr _ acts rfl rfl rfl]) | rw [hr _ _ rfl rfl rfl]
    exact Steps.refl _
end Own
section OwnH
variable {p : Program} {l : Launch} {e : Env} {R : Room} {s : State} {m : MethodId} {args : Array Value} {below : List Frame} {meth : Method} {c : Code} {T : State} {locs : List Loc} {cells slots : Nat}
variable {Fz : Outcome → State → Prop} {bc : ByteArray} {pc pc' : Nat} {Ls Ls' : Array Slot} {st : List Value}
variable {Z : State} {a0 : Array Value} {h h0 : Heap} {n0 : Nat}
abbrev OwnMet (l : Launch) (Z : State) (y : MethodName) (bytes : ByteArray) (maxL : Nat) (rt : Option FieldType) (ws : List Jvm.Cond) (rm : Room) (as' : Array Value) (h0 : Heap) (Qc : Option Value → Heap → List Loc → Prop) : Prop :=
  MetFree l y (head1 (Jvm.Cond.code y bytes maxL rt :: ws) rm) (fun a U => a = as' ∧ Z.Warmed39 U.vm ∧ U.heap = h0) (fun _ _ _ _ _ => True) (fun _ U o U' => ∃ v L, o = .returned v ∧ Qc v U'.heap L ∧ FrameEnd U o U' L rm.cells rm.slots)
theorem own_body {y : MethodName} {bytes : ByteArray} {maxL : Nat} {rt : Option FieldType} {ws : List Jvm.Cond} {rm : Room} {as' : Array Value} {Qc : Option Value → Heap → List Loc → Prop} {Ls0 : Array Slot} (hpl : plainFor y = true) (hef : ∀ m : MethodId, entryFrame m as' maxL = mkF m 0 Ls0 [])
    (body : ∀ (p : Program) (e : Env) (s : State) (m : MethodId) (below : List Frame) (meth : Method) (c : Code) (s₁ : State), Stand p l e rm s m as' below meth c s₁ [] 0 0 → p.tables.exec = Jvm.exec → c.code = bytes → c.maxLocals = maxL → s.vm.findClass y.cls = some m.cls → meth.name = y.name → meth.sig.returnType = rt → meth.locks = false → Z.Warmed39 s.vm → s₁.heap = h0 → Ends p.tables e below (OwnFin s Qc rm.cells rm.slots) (s₁.setTop (mkF m 0 Ls0 []))) :
    OwnMet l Z y bytes maxL rt ws rm as' h0 Qc := by
  refine MetFree.of_bodySF hpl hisR ?_
  intro p e s m args below meth c s₁ Bd hml0 hP hK
  obtain ⟨rfl, hZ, hh⟩ := hP
  have e0 : s₁.heap = h0 := by rw [← hh, Bd.state]; rfl
  rw [hef]
  exact body p e s m below meth c s₁ (Stand.of_body Bd) Bd.exec Bd.bytes hml0 (findClass_of_methodNamed Bd.named) (name_of_methodNamed Bd.named Bd.method).1 Bd.returns Bd.notSynchronized hZ e0
theorem own_static (X : Stand p l e R s m args below meth c T locs cells slots) (hx : p.tables.exec = Jvm.exec) (hby : c.code = bc) (hZ : Z.Warmed39 s.vm) {own : String} {index : Nat} {y : MethodName} {bytes : ByteArray} {maxL : Nat} {rt r : Option FieldType} {ps : List FieldType} {rm : Room} {argsL rest : List Value} {Qc : Option Value → Heap → List Loc → Prop} {W : Nat}
    (hown : s.vm.findClass own = some m.cls) (w1 : (Jvm.Cond.methodLink own index y).before a0 Z = true) (w2 : (Jvm.Cond.static y).before a0 Z = true) (w3 : (Jvm.Cond.initialized y.cls).before a0 Z = true) (w4 : (Jvm.Cond.code y bytes maxL rt).before a0 Z = true) (hy : y.cls ≠ "java/lang/invoke/MethodHandle" ∧ y.cls ≠ "java/lang/invoke/VarHandle")
    (hM : OwnMet l Z y bytes maxL rt [] rm argsL.toArray h Qc) (eT : T.heap = h) (hml : Ls.size = c.maxLocals) (hlen : parseMethodDescriptor y.desc = some ⟨ps, r⟩) (hl : argsL.length = ps.length) (hf : rm.frames + 1 ≤ R.frames) (hW : (rest.map fun v => v.category).sum ≤ W) (hlo : W + (maxL + 11) + rm.locals ≤ R.locals) (hc : cells + rm.cells ≤ R.cells) (hs : slots + rm.slots ≤ R.slots)
    (hd : decode bc pc = .ok (.invokestatic index, 3)) (hp : pc + 3 = pc') (hst : st = argsL.reverse ++ rest)
    (kt : ∀ v T' L, Stand p l e R s m args below meth c T' (locs ++ L) (cells + rm.cells) (slots + rm.slots) → Qc v T'.heap L → Ends p.tables e below Fz (T'.setTop (mkF m pc' Ls (v.toList ++ rest)))) : Ends p.tables e below Fz (T.setTop (mkF m pc Ls st)) := by
  subst hp hst
  obtain ⟨v, vm₁, ⟨T', L', k', n'⟩, -, X', ⟨Lc, hQ, l', y', z'⟩, st⟩ := Jvm.LawKit.callS X hx (y := y) hown (mvT hZ w1) (mvT hZ w2) (mvT hZ w3) (mvT hZ w4) hy (backOf (W := W) hM hZ w4 w3 hf hlo) (g := mkF m pc Ls (argsL.reverse ++ rest)) rfl hml (argsL := argsL) (rest := rest) (lenOf hlen hl) rfl (by show 2 * 0 + _ ≤ _; omega) (hb hby hd) (fun _ _ => ⟨rfl, eT, hc, hs⟩)
  dsimp only [Pt.U, Pt.locs, Pt.cells, Pt.slots] at X' l' y' z' st hQ
  subst l' y' z'
  exact Ends.of st (kt v T' Lc X' hQ)
theorem own_ldcI (X : Stand p l e R s m args below meth c T locs cells slots) (hx : p.tables.exec = Jvm.exec) (hby : c.code = bc) (hZ : Z.Warmed39 s.vm) {own : String} {index : Nat} {v : Int32}
    (hown : s.vm.findClass own = some m.cls) (w : (Jvm.Cond.constant own index v).before a0 Z = true) (hd : decode bc pc = .ok (.ldc index, 2)) (hp : pc + 2 = pc')
    (kt : Ends p.tables e below Fz (T.setTop (mkF m pc' Ls (.int v :: st)))) : Ends p.tables e below Fz (T.setTop (mkF m pc Ls st)) := by
  subst hp; exact Ends.of (X.ldcInt hx hown (mvT hZ w) (g := mkF m pc Ls st) rfl (hb hby hd)) kt
end OwnH

def own_es (c : Int32) : Int32 := if 400 ≤ c.toInt ∧ c.toInt ≤ 599 then 1 else 0
theorem own_es1 {c : Int32} (h1 : 400 ≤ c.toInt) (h2 : c.toInt ≤ 599) : own_es c = 1 := by rw [own_es, if_pos ⟨h1, h2⟩]
theorem own_es0 {c : Int32} (h : ¬ (400 ≤ c.toInt ∧ c.toInt ≤ 599)) : own_es c = 0 := by rw [own_es, if_neg h]
theorem own_ne {c d : Int32} (k : Int) (hd : d.toInt = k) (h : ¬ c = d) : c.toInt ≠ k := fun q => h (Int32.toInt_inj.mp (q.trans hd.symm))
theorem own_eq {c d : Int32} (k : Int) (hd : d.toInt = k) (h : c = d) : c.toInt = k := by rw [h, hd]
theorem own_inside (k : Int32) : own_es ((400 : Int32) + (k &&& (2147483647 : Int32)) % (200 : Int32)) = 1 := by
  have k1 := c_mask k (2147483647 : Int32) 31 (by decide) (by decide)
  have k2 := (c_irem (k &&& (2147483647 : Int32)) (200 : Int32) 200 rfl).1
  have k3 := c_iadd (400 : Int32) ((k &&& (2147483647 : Int32)) % (200 : Int32))
  have k4 : (400 : Int32).toInt = 400 := rfl
  have r1 := rng32 ((400 : Int32) + (k &&& (2147483647 : Int32)) % (200 : Int32))
  have k5 := k2 (by omega)
  exact own_es1 (by omega) (by omega)
theorem tw_0 : (Jvm.Cond.constant "com/example/uni_errors/unierrors/BuiltInErrorsErrorStatusPinLaw" (7 : Nat) (2147483647 : Int32)) ∈ tables_1 := List.mem_of_getElem? (i := 0) rfl
theorem tw_1 : (Jvm.Cond.methodLink "com/example/uni_errors/unierrors/BuiltInErrorsErrorStatusPinLaw" (8 : Nat) ({ cls := "com/example/uni_errors/unierrors/BuiltInErrors", name := "errorStatus", desc := "(I)Z" } : Jvm.MethodName)) ∈ tables_1 := List.mem_of_getElem? (i := 1) rfl
theorem tw_2 : (Jvm.Cond.static ({ cls := "com/example/uni_errors/unierrors/BuiltInErrors", name := "errorStatus", desc := "(I)Z" } : Jvm.MethodName)) ∈ tables_1 := List.mem_of_getElem? (i := 2) rfl
theorem tw_3 : (Jvm.Cond.initialized "com/example/uni_errors/unierrors/BuiltInErrors") ∈ tables_1 := List.mem_of_getElem? (i := 3) rfl
theorem tw_4 : (Jvm.Cond.code ({ cls := "com/example/uni_errors/unierrors/BuiltInErrors", name := "errorStatus", desc := "(I)Z" } : Jvm.MethodName) prog_3_method_6_code (1 : Nat) (Option.some Jvm.ClassFile.FieldType.boolean)) ∈ tables_1 := List.mem_of_getElem? (i := 4) rfl
theorem tw_5 : (Jvm.Cond.methodLink "com/example/uni_errors/unierrors/BuiltInErrorsErrorStatusPinLaw" (14 : Nat) ({ cls := "com/example/uni_errors/unierrors/BuiltInErrorsErrorStatusPinLaw", name := "ref", desc := "(I)Z" } : Jvm.MethodName)) ∈ tables_1 := List.mem_of_getElem? (i := 5) rfl
theorem tw_6 : (Jvm.Cond.static ({ cls := "com/example/uni_errors/unierrors/BuiltInErrorsErrorStatusPinLaw", name := "ref", desc := "(I)Z" } : Jvm.MethodName)) ∈ tables_1 := List.mem_of_getElem? (i := 6) rfl
theorem tw_7 : (Jvm.Cond.initialized "com/example/uni_errors/unierrors/BuiltInErrorsErrorStatusPinLaw") ∈ tables_1 := List.mem_of_getElem? (i := 7) rfl
theorem tw_8 : (Jvm.Cond.code ({ cls := "com/example/uni_errors/unierrors/BuiltInErrorsErrorStatusPinLaw", name := "ref", desc := "(I)Z" } : Jvm.MethodName) method_2_code (2 : Nat) (Option.some Jvm.ClassFile.FieldType.boolean)) ∈ tables_1 := List.mem_of_getElem? (i := 8) rfl
theorem d1_0 : decode prog_3_method_6_code 0 = .ok (.iload_n 0, 1) := by decide +kernel
theorem d1_1 : decode prog_3_method_6_code 1 = .ok (.sipush 400, 3) := by decide +kernel
theorem d1_4 : decode prog_3_method_6_code 4 = .ok (.if_icmp .lt 14, 3) := by decide +kernel
theorem d1_7 : decode prog_3_method_6_code 7 = .ok (.iload_n 0, 1) := by decide +kernel
theorem d1_8 : decode prog_3_method_6_code 8 = .ok (.sipush 599, 3) := by decide +kernel
theorem d1_11 : decode prog_3_method_6_code 11 = .ok (.if_icmp .gt 7, 3) := by decide +kernel
theorem d1_14 : decode prog_3_method_6_code 14 = .ok (.iconst 1, 1) := by decide +kernel
theorem d1_15 : decode prog_3_method_6_code 15 = .ok (.goto 4, 3) := by decide +kernel
theorem d1_18 : decode prog_3_method_6_code 18 = .ok (.iconst 0, 1) := by decide +kernel
theorem d1_19 : decode prog_3_method_6_code 19 = .ok (.ireturn, 1) := by decide +kernel
theorem d2_0 : decode method_2_code 0 = .ok (.iload_n 0, 1) := by decide +kernel
theorem d2_1 : decode method_2_code 1 = .ok (.bipush 100, 2) := by decide +kernel
theorem d2_3 : decode method_2_code 3 = .ok (.idiv, 1) := by decide +kernel
theorem d2_4 : decode method_2_code 4 = .ok (.istore_n 1, 1) := by decide +kernel
theorem d2_5 : decode method_2_code 5 = .ok (.iload_n 1, 1) := by decide +kernel
theorem d2_6 : decode method_2_code 6 = .ok (.iconst 4, 1) := by decide +kernel
theorem d2_7 : decode method_2_code 7 = .ok (.if_icmp .eq 8, 3) := by decide +kernel
theorem d2_10 : decode method_2_code 10 = .ok (.iload_n 1, 1) := by decide +kernel
theorem d2_11 : decode method_2_code 11 = .ok (.iconst 5, 1) := by decide +kernel
theorem d2_12 : decode method_2_code 12 = .ok (.if_icmp .ne 7, 3) := by decide +kernel
theorem d2_15 : decode method_2_code 15 = .ok (.iconst 1, 1) := by decide +kernel
theorem d2_16 : decode method_2_code 16 = .ok (.goto 4, 3) := by decide +kernel
theorem d2_19 : decode method_2_code 19 = .ok (.iconst 0, 1) := by decide +kernel
theorem d2_20 : decode method_2_code 20 = .ok (.ireturn, 1) := by decide +kernel
theorem pd_0 : parseMethodDescriptor "(I)Z" = some ⟨[.int], some .boolean⟩ := by decide +kernel
theorem pn_0 : plainName "com/example/uni_errors/unierrors/BuiltInErrors" = true := by first | (simp [plainName, overriddenIn]; done) | decide +kernel
theorem pn_1 : plainName "com/example/uni_errors/unierrors/BuiltInErrorsErrorStatusPinLaw" = true := by first | (simp [plainName, overriddenIn]; done) | decide +kernel
theorem ef_1 (m : MethodId) (x0 : Int32) : entryFrame m #[(.int x0)] 1 = mkF m 0 #[.val (.int x0)] [] := by first | (simp [entryFrame, mkF, argsToLocals, Value.category]; done) | rfl
theorem ef_2 (m : MethodId) (x0 : Int32) : entryFrame m #[(.int x0)] 2 = mkF m 0 #[.val (.int x0), .unset] [] := by first | (simp [entryFrame, mkF, argsToLocals, Value.category]; done) | rfl
theorem ef_0 (m : MethodId) (x0 : Int32) (x1 : Int32) : entryFrame m #[(.int x0), (.int x1)] maxLocals = mkF m 0 #[.val (.int x0), .val (.int x1), .unset, .unset, .unset, .unset, .unset, .unset, .unset] [] := by first | (simp [entryFrame, mkF, argsToLocals, Value.category, maxLocals]; done) | rfl
set_option maxRecDepth 65536 in
set_option maxHeartbeats 40000000 in
theorem rm1 (l : Launch) (Z : State) (a0 : Array Value) (hw : ∀ d ∈ tables_1, d.before a0 Z = true) (x0 : Int32) (h0 : Heap) :
    OwnMet l Z (⟨"com/example/uni_errors/unierrors/BuiltInErrors", "errorStatus", "(I)Z"⟩ : MethodName) prog_3_method_6_code 1 (some .boolean) [] ({ frames := 0, cells := 0, slots := 0, locals := 0 } : Room) #[(.int x0)] h0 (fun v h L => v = some (.int (own_es x0)) ∧ L = [] ∧ h = h0) := by
  refine own_body (plainFor_of_name pn_0) (fun m => ef_1 m x0) ?_
  intro p e s m below meth c s₁ X0 hx hby hml hown hnm hret hlk hZ e0
  replace hown : s.vm.findClass "com/example/uni_errors/unierrors/BuiltInErrors" = some m.cls := hown
  replace hml : c.maxLocals = 1 := hml
  show Ends p.tables e below _ (s₁.setTop (mkF m 0 #[.val (.int x0)] []))
  refine own_iloadN X0 hx hby d1_0 rfl rfl ?_
  refine own_sipush X0 hx hby d1_1 rfl (400 : Int32) rfl ?_
  refine own_icmp_lt X0 hx hby d1_4 (pcY := 18) (pcN := 7) (by decide) rfl (fun (hc1 : x0.toInt < 400) => ?_) (fun (hc1 : 400 ≤ x0.toInt) => ?_)
  · -- pc 4: t
    refine own_iconst X0 hx hby d1_18 rfl (0 : Int32) rfl ?_
    refine own_ret X0 hx hby hret hlk d1_19 (.int (0 : Int32)) rfl (Or.inl ⟨rfl, by simp, _, rfl⟩) (by decide) (by decide) ?_
    refine ⟨?_, rfl, e0⟩
    first | rw [own_es1 (by omega) (by omega)] | rw [own_es0 (by omega)]
  · -- pc 4: f
    refine own_iloadN X0 hx hby d1_7 rfl rfl ?_
    refine own_sipush X0 hx hby d1_8 rfl (599 : Int32) rfl ?_
    refine own_icmp_gt X0 hx hby d1_11 (pcY := 18) (pcN := 14) (by decide) rfl (fun (hc2 : 599 < x0.toInt) => ?_) (fun (hc2 : x0.toInt ≤ 599) => ?_)
    · -- pc 11: t
      refine own_iconst X0 hx hby d1_18 rfl (0 : Int32) rfl ?_
      refine own_ret X0 hx hby hret hlk d1_19 (.int (0 : Int32)) rfl (Or.inl ⟨rfl, by simp, _, rfl⟩) (by decide) (by decide) ?_
      refine ⟨?_, rfl, e0⟩
      first | rw [own_es1 (by omega) (by omega)] | rw [own_es0 (by omega)]
    · -- pc 11: f
      refine own_iconst X0 hx hby d1_14 rfl (1 : Int32) rfl ?_
      refine own_goto X0 hx hby d1_15 (pc' := 19) (by decide) ?_
      refine own_ret X0 hx hby hret hlk d1_19 (.int (1 : Int32)) rfl (Or.inl ⟨rfl, by simp, _, rfl⟩) (by decide) (by decide) ?_
      refine ⟨?_, rfl, e0⟩
      first | rw [own_es1 (by omega) (by omega)] | rw [own_es0 (by omega)]
set_option maxRecDepth 65536 in
set_option maxHeartbeats 40000000 in
theorem rm2 (l : Launch) (Z : State) (a0 : Array Value) (hw : ∀ d ∈ tables_1, d.before a0 Z = true) (x0 : Int32) (h0 : Heap) :
    OwnMet l Z (⟨"com/example/uni_errors/unierrors/BuiltInErrorsErrorStatusPinLaw", "ref", "(I)Z"⟩ : MethodName) method_2_code 2 (some .boolean) [] ({ frames := 0, cells := 0, slots := 0, locals := 0 } : Room) #[(.int x0)] h0 (fun v h L => v = some (.int (own_es x0)) ∧ L = [] ∧ h = h0) := by
  refine own_body (plainFor_of_name pn_1) (fun m => ef_2 m x0) ?_
  intro p e s m below meth c s₁ X0 hx hby hml hown hnm hret hlk hZ e0
  replace hown : s.vm.findClass "com/example/uni_errors/unierrors/BuiltInErrorsErrorStatusPinLaw" = some m.cls := hown
  replace hml : c.maxLocals = 2 := hml
  show Ends p.tables e below _ (s₁.setTop (mkF m 0 #[.val (.int x0), .unset] []))
  have k1 := (c_idiv x0 (100 : Int32) 100 rfl (by decide)).1
  have k2 := (c_idiv x0 (100 : Int32) 100 rfl (by decide)).2
  refine own_iloadN X0 hx hby d2_0 rfl rfl ?_
  refine own_bipush X0 hx hby d2_1 rfl (100 : Int32) rfl ?_
  refine own_idiv X0 hx hby d2_3 rfl (by decide) ?_
  refine own_istoreN X0 hx hby d2_4 rfl #[.val (.int x0), .val (.int (x0 / (100 : Int32)))] rfl ?_
  refine own_iloadN X0 hx hby d2_5 rfl rfl ?_
  refine own_iconst X0 hx hby d2_6 rfl (4 : Int32) rfl ?_
  refine own_icmp_eq X0 hx hby d2_7 (pcY := 15) (pcN := 10) (by decide) rfl (fun (hc3 : (x0 / (100 : Int32)) = (4 : Int32)) => ?_) (fun (hc3 : ¬ (x0 / (100 : Int32)) = (4 : Int32)) => ?_)
  · -- pc 7: t
    have hc3' := own_eq 4 rfl hc3
    refine own_iconst X0 hx hby d2_15 rfl (1 : Int32) rfl ?_
    refine own_goto X0 hx hby d2_16 (pc' := 20) (by decide) ?_
    refine own_ret X0 hx hby hret hlk d2_20 (.int (1 : Int32)) rfl (Or.inl ⟨rfl, by simp, _, rfl⟩) (by decide) (by decide) ?_
    refine ⟨?_, rfl, e0⟩
    rcases Int.lt_or_le x0.toInt 0 with q | q
    · have k3 := k2 q
      first | rw [own_es1 (by omega) (by omega)] | rw [own_es0 (by omega)]
    · have k3 := k1 q
      first | rw [own_es1 (by omega) (by omega)] | rw [own_es0 (by omega)]
  · -- pc 7: f
    have hc3' := own_ne 4 rfl hc3
    refine own_iloadN X0 hx hby d2_10 rfl rfl ?_
    refine own_iconst X0 hx hby d2_11 rfl (5 : Int32) rfl ?_
    refine own_icmp_ne X0 hx hby d2_12 (pcY := 19) (pcN := 15) (by decide) rfl (fun (hc4 : ¬ (x0 / (100 : Int32)) = (5 : Int32)) => ?_) (fun (hc4 : (x0 / (100 : Int32)) = (5 : Int32)) => ?_)
    · -- pc 12: t
      have hc4' := own_ne 5 rfl hc4
      refine own_iconst X0 hx hby d2_19 rfl (0 : Int32) rfl ?_
      refine own_ret X0 hx hby hret hlk d2_20 (.int (0 : Int32)) rfl (Or.inl ⟨rfl, by simp, _, rfl⟩) (by decide) (by decide) ?_
      refine ⟨?_, rfl, e0⟩
      rcases Int.lt_or_le x0.toInt 0 with q | q
      · have k3 := k2 q
        first | rw [own_es1 (by omega) (by omega)] | rw [own_es0 (by omega)]
      · have k3 := k1 q
        first | rw [own_es1 (by omega) (by omega)] | rw [own_es0 (by omega)]
    · -- pc 12: f
      have hc4' := own_eq 5 rfl hc4
      refine own_iconst X0 hx hby d2_15 rfl (1 : Int32) rfl ?_
      refine own_goto X0 hx hby d2_16 (pc' := 20) (by decide) ?_
      refine own_ret X0 hx hby hret hlk d2_20 (.int (1 : Int32)) rfl (Or.inl ⟨rfl, by simp, _, rfl⟩) (by decide) (by decide) ?_
      refine ⟨?_, rfl, e0⟩
      rcases Int.lt_or_le x0.toInt 0 with q | q
      · have k3 := k2 q
        first | rw [own_es1 (by omega) (by omega)] | rw [own_es0 (by omega)]
      · have k3 := k1 q
        first | rw [own_es1 (by omega) (by omega)] | rw [own_es0 (by omega)]
set_option maxRecDepth 65536 in
set_option maxHeartbeats 40000000 in
theorem rm0 (l : Launch) (Z : State) (a0 : Array Value) (hw : ∀ d ∈ tables_1, d.before a0 Z = true) (x0 : Int32) (x1 : Int32) (h0 : Heap) (n0 : Nat) :
    OwnMet l Z x code maxLocals ret tables_1 room_1 #[(.int x0), (.int x1)] h0 (fun v h L => v = some (.int 1) ∧ Fr n0 L) := by
  refine own_body (plainFor_of_name pn_1) (fun m => ef_0 m x0 x1) ?_
  intro p e s m below meth c s₁ X0 hx hby hml hown hnm hret hlk hZ e0
  replace hown : s.vm.findClass "com/example/uni_errors/unierrors/BuiltInErrorsErrorStatusPinLaw" = some m.cls := hown
  replace hml : c.maxLocals = 9 := hml
  have N0 := Fr.nil n0
  show Ends p.tables e below _ (s₁.setTop (mkF m 0 #[.val (.int x0), .val (.int x1), .unset, .unset, .unset, .unset, .unset, .unset, .unset] []))
  refine own_sipush X0 hx hby at_0 rfl (395 : Int32) rfl ?_
  refine own_iloadN X0 hx hby at_3 rfl rfl ?_
  refine own_bipush X0 hx hby at_4 rfl (15 : Int32) rfl ?_
  refine own_iand X0 hx hby at_6 rfl ?_
  refine own_iadd X0 hx hby at_7 rfl ?_
  refine own_istoreN X0 hx hby at_8 rfl #[.val (.int x0), .val (.int x1), .val (.int ((395 : Int32) + (x1 &&& (15 : Int32)))), .unset, .unset, .unset, .unset, .unset, .unset] rfl ?_
  refine own_sipush X0 hx hby at_9 rfl (592 : Int32) rfl ?_
  refine own_iloadN X0 hx hby at_12 rfl rfl ?_
  refine own_iconst X0 hx hby at_13 rfl (4 : Int32) rfl ?_
  refine own_iushr X0 hx hby at_14 rfl ?_
  refine own_bipush X0 hx hby at_15 rfl (15 : Int32) rfl ?_
  refine own_iand X0 hx hby at_17 rfl ?_
  refine own_iadd X0 hx hby at_18 rfl ?_
  refine own_istoreN X0 hx hby at_19 rfl #[.val (.int x0), .val (.int x1), .val (.int ((395 : Int32) + (x1 &&& (15 : Int32)))), .val (.int ((592 : Int32) + (((x1.toUInt32 >>> ((4 : Int32) &&& 31).toUInt32).toInt32) &&& (15 : Int32)))), .unset, .unset, .unset, .unset, .unset] rfl ?_
  refine own_sipush X0 hx hby at_20 rfl (400 : Int32) rfl ?_
  refine own_iloadN X0 hx hby at_23 rfl rfl ?_
  refine own_ldcI X0 hx hby hZ hown (hw _ tw_0) at_24 rfl ?_
  refine own_iand X0 hx hby at_26 rfl ?_
  refine own_sipush X0 hx hby at_27 rfl (200 : Int32) rfl ?_
  refine own_irem X0 hx hby at_30 rfl (by decide) ?_
  refine own_iadd X0 hx hby at_31 rfl ?_
  refine own_istore X0 hx hby at_32 rfl #[.val (.int x0), .val (.int x1), .val (.int ((395 : Int32) + (x1 &&& (15 : Int32)))), .val (.int ((592 : Int32) + (((x1.toUInt32 >>> ((4 : Int32) &&& 31).toUInt32).toInt32) &&& (15 : Int32)))), .val (.int ((400 : Int32) + ((x1 &&& (2147483647 : Int32)) % (200 : Int32)))), .unset, .unset, .unset, .unset] rfl ?_
  refine own_iloadN X0 hx hby at_34 rfl rfl ?_
  refine own_static X0 hx hby hZ (argsL := [(.int x0)]) (rest := []) hown (hw _ tw_1) (hw _ tw_2) (hw _ tw_3) (hw _ tw_4) (by decide) (rm1 l Z a0 hw x0 h0) e0 (by rw [hml]; rfl) pd_0 rfl (by decide) (W := 0) (Nat.le_refl _) (by decide) (by decide) (by decide) at_35 rfl rfl (fun v5 T5 L5 X5 hQ5 => ?_)
  obtain ⟨rfl, rfl, e5⟩ := hQ5
  show Ends p.tables e below _ (T5.setTop (mkF m 38 #[.val (.int x0), .val (.int x1), .val (.int ((395 : Int32) + (x1 &&& (15 : Int32)))), .val (.int ((592 : Int32) + (((x1.toUInt32 >>> ((4 : Int32) &&& 31).toUInt32).toInt32) &&& (15 : Int32)))), .val (.int ((400 : Int32) + ((x1 &&& (2147483647 : Int32)) % (200 : Int32)))), .unset, .unset, .unset, .unset] [(.int (own_es x0))]))
  refine own_iloadN X5 hx hby at_38 rfl rfl ?_
  refine own_static X5 hx hby hZ (argsL := [(.int x0)]) (rest := [(.int (own_es x0))]) hown (hw _ tw_5) (hw _ tw_6) (hw _ tw_7) (hw _ tw_8) (by decide) (rm2 l Z a0 hw x0 h0) e5 (by rw [hml]; rfl) pd_0 rfl (by decide) (W := 1) (Nat.le_refl _) (by decide) (by decide) (by decide) at_39 rfl rfl (fun v6 T6 L6 X6 hQ6 => ?_)
  obtain ⟨rfl, rfl, e6⟩ := hQ6
  show Ends p.tables e below _ (T6.setTop (mkF m 42 #[.val (.int x0), .val (.int x1), .val (.int ((395 : Int32) + (x1 &&& (15 : Int32)))), .val (.int ((592 : Int32) + (((x1.toUInt32 >>> ((4 : Int32) &&& 31).toUInt32).toInt32) &&& (15 : Int32)))), .val (.int ((400 : Int32) + ((x1 &&& (2147483647 : Int32)) % (200 : Int32)))), .unset, .unset, .unset, .unset] [(.int (own_es x0)), (.int (own_es x0))]))
  refine own_icmp_ne X6 hx hby at_42 (pcY := 49) (pcN := 45) (by decide) rfl (fun (hc7 : ¬ (own_es x0) = (own_es x0)) => False.elim (by exact hc7 rfl)) (fun (hc7 : (own_es x0) = (own_es x0)) => ?_)
  refine own_iconst X6 hx hby at_45 rfl (1 : Int32) rfl ?_
  refine own_goto X6 hx hby at_46 (pc' := 50) (by decide) ?_
  refine own_istore X6 hx hby at_50 rfl #[.val (.int x0), .val (.int x1), .val (.int ((395 : Int32) + (x1 &&& (15 : Int32)))), .val (.int ((592 : Int32) + (((x1.toUInt32 >>> ((4 : Int32) &&& 31).toUInt32).toInt32) &&& (15 : Int32)))), .val (.int ((400 : Int32) + ((x1 &&& (2147483647 : Int32)) % (200 : Int32)))), .val (.int (1 : Int32)), .unset, .unset, .unset] rfl ?_
  refine own_iloadN X6 hx hby at_52 rfl rfl ?_
  refine own_static X6 hx hby hZ (argsL := [(.int ((395 : Int32) + (x1 &&& (15 : Int32))))]) (rest := []) hown (hw _ tw_1) (hw _ tw_2) (hw _ tw_3) (hw _ tw_4) (by decide) (rm1 l Z a0 hw ((395 : Int32) + (x1 &&& (15 : Int32))) h0) e6 (by rw [hml]; rfl) pd_0 rfl (by decide) (W := 0) (Nat.le_refl _) (by decide) (by decide) (by decide) at_53 rfl rfl (fun v8 T8 L8 X8 hQ8 => ?_)
  obtain ⟨rfl, rfl, e8⟩ := hQ8
  show Ends p.tables e below _ (T8.setTop (mkF m 56 #[.val (.int x0), .val (.int x1), .val (.int ((395 : Int32) + (x1 &&& (15 : Int32)))), .val (.int ((592 : Int32) + (((x1.toUInt32 >>> ((4 : Int32) &&& 31).toUInt32).toInt32) &&& (15 : Int32)))), .val (.int ((400 : Int32) + ((x1 &&& (2147483647 : Int32)) % (200 : Int32)))), .val (.int (1 : Int32)), .unset, .unset, .unset] [(.int (own_es ((395 : Int32) + (x1 &&& (15 : Int32)))))]))
  refine own_iloadN X8 hx hby at_56 rfl rfl ?_
  refine own_static X8 hx hby hZ (argsL := [(.int ((395 : Int32) + (x1 &&& (15 : Int32))))]) (rest := [(.int (own_es ((395 : Int32) + (x1 &&& (15 : Int32)))))]) hown (hw _ tw_5) (hw _ tw_6) (hw _ tw_7) (hw _ tw_8) (by decide) (rm2 l Z a0 hw ((395 : Int32) + (x1 &&& (15 : Int32))) h0) e8 (by rw [hml]; rfl) pd_0 rfl (by decide) (W := 1) (Nat.le_refl _) (by decide) (by decide) (by decide) at_57 rfl rfl (fun v9 T9 L9 X9 hQ9 => ?_)
  obtain ⟨rfl, rfl, e9⟩ := hQ9
  show Ends p.tables e below _ (T9.setTop (mkF m 60 #[.val (.int x0), .val (.int x1), .val (.int ((395 : Int32) + (x1 &&& (15 : Int32)))), .val (.int ((592 : Int32) + (((x1.toUInt32 >>> ((4 : Int32) &&& 31).toUInt32).toInt32) &&& (15 : Int32)))), .val (.int ((400 : Int32) + ((x1 &&& (2147483647 : Int32)) % (200 : Int32)))), .val (.int (1 : Int32)), .unset, .unset, .unset] [(.int (own_es ((395 : Int32) + (x1 &&& (15 : Int32))))), (.int (own_es ((395 : Int32) + (x1 &&& (15 : Int32)))))]))
  refine own_icmp_ne X9 hx hby at_60 (pcY := 67) (pcN := 63) (by decide) rfl (fun (hc10 : ¬ (own_es ((395 : Int32) + (x1 &&& (15 : Int32)))) = (own_es ((395 : Int32) + (x1 &&& (15 : Int32))))) => False.elim (by exact hc10 rfl)) (fun (hc10 : (own_es ((395 : Int32) + (x1 &&& (15 : Int32)))) = (own_es ((395 : Int32) + (x1 &&& (15 : Int32))))) => ?_)
  refine own_iconst X9 hx hby at_63 rfl (1 : Int32) rfl ?_
  refine own_goto X9 hx hby at_64 (pc' := 68) (by decide) ?_
  refine own_istore X9 hx hby at_68 rfl #[.val (.int x0), .val (.int x1), .val (.int ((395 : Int32) + (x1 &&& (15 : Int32)))), .val (.int ((592 : Int32) + (((x1.toUInt32 >>> ((4 : Int32) &&& 31).toUInt32).toInt32) &&& (15 : Int32)))), .val (.int ((400 : Int32) + ((x1 &&& (2147483647 : Int32)) % (200 : Int32)))), .val (.int (1 : Int32)), .val (.int (1 : Int32)), .unset, .unset] rfl ?_
  refine own_iloadN X9 hx hby at_70 rfl rfl ?_
  refine own_static X9 hx hby hZ (argsL := [(.int ((592 : Int32) + (((x1.toUInt32 >>> ((4 : Int32) &&& 31).toUInt32).toInt32) &&& (15 : Int32))))]) (rest := []) hown (hw _ tw_1) (hw _ tw_2) (hw _ tw_3) (hw _ tw_4) (by decide) (rm1 l Z a0 hw ((592 : Int32) + (((x1.toUInt32 >>> ((4 : Int32) &&& 31).toUInt32).toInt32) &&& (15 : Int32))) h0) e9 (by rw [hml]; rfl) pd_0 rfl (by decide) (W := 0) (Nat.le_refl _) (by decide) (by decide) (by decide) at_71 rfl rfl (fun v11 T11 L11 X11 hQ11 => ?_)
  obtain ⟨rfl, rfl, e11⟩ := hQ11
  show Ends p.tables e below _ (T11.setTop (mkF m 74 #[.val (.int x0), .val (.int x1), .val (.int ((395 : Int32) + (x1 &&& (15 : Int32)))), .val (.int ((592 : Int32) + (((x1.toUInt32 >>> ((4 : Int32) &&& 31).toUInt32).toInt32) &&& (15 : Int32)))), .val (.int ((400 : Int32) + ((x1 &&& (2147483647 : Int32)) % (200 : Int32)))), .val (.int (1 : Int32)), .val (.int (1 : Int32)), .unset, .unset] [(.int (own_es ((592 : Int32) + (((x1.toUInt32 >>> ((4 : Int32) &&& 31).toUInt32).toInt32) &&& (15 : Int32)))))]))
  refine own_iloadN X11 hx hby at_74 rfl rfl ?_
  refine own_static X11 hx hby hZ (argsL := [(.int ((592 : Int32) + (((x1.toUInt32 >>> ((4 : Int32) &&& 31).toUInt32).toInt32) &&& (15 : Int32))))]) (rest := [(.int (own_es ((592 : Int32) + (((x1.toUInt32 >>> ((4 : Int32) &&& 31).toUInt32).toInt32) &&& (15 : Int32)))))]) hown (hw _ tw_5) (hw _ tw_6) (hw _ tw_7) (hw _ tw_8) (by decide) (rm2 l Z a0 hw ((592 : Int32) + (((x1.toUInt32 >>> ((4 : Int32) &&& 31).toUInt32).toInt32) &&& (15 : Int32))) h0) e11 (by rw [hml]; rfl) pd_0 rfl (by decide) (W := 1) (Nat.le_refl _) (by decide) (by decide) (by decide) at_75 rfl rfl (fun v12 T12 L12 X12 hQ12 => ?_)
  obtain ⟨rfl, rfl, e12⟩ := hQ12
  show Ends p.tables e below _ (T12.setTop (mkF m 78 #[.val (.int x0), .val (.int x1), .val (.int ((395 : Int32) + (x1 &&& (15 : Int32)))), .val (.int ((592 : Int32) + (((x1.toUInt32 >>> ((4 : Int32) &&& 31).toUInt32).toInt32) &&& (15 : Int32)))), .val (.int ((400 : Int32) + ((x1 &&& (2147483647 : Int32)) % (200 : Int32)))), .val (.int (1 : Int32)), .val (.int (1 : Int32)), .unset, .unset] [(.int (own_es ((592 : Int32) + (((x1.toUInt32 >>> ((4 : Int32) &&& 31).toUInt32).toInt32) &&& (15 : Int32))))), (.int (own_es ((592 : Int32) + (((x1.toUInt32 >>> ((4 : Int32) &&& 31).toUInt32).toInt32) &&& (15 : Int32)))))]))
  refine own_icmp_ne X12 hx hby at_78 (pcY := 85) (pcN := 81) (by decide) rfl (fun (hc13 : ¬ (own_es ((592 : Int32) + (((x1.toUInt32 >>> ((4 : Int32) &&& 31).toUInt32).toInt32) &&& (15 : Int32)))) = (own_es ((592 : Int32) + (((x1.toUInt32 >>> ((4 : Int32) &&& 31).toUInt32).toInt32) &&& (15 : Int32))))) => False.elim (by exact hc13 rfl)) (fun (hc13 : (own_es ((592 : Int32) + (((x1.toUInt32 >>> ((4 : Int32) &&& 31).toUInt32).toInt32) &&& (15 : Int32)))) = (own_es ((592 : Int32) + (((x1.toUInt32 >>> ((4 : Int32) &&& 31).toUInt32).toInt32) &&& (15 : Int32))))) => ?_)
  refine own_iconst X12 hx hby at_81 rfl (1 : Int32) rfl ?_
  refine own_goto X12 hx hby at_82 (pc' := 86) (by decide) ?_
  refine own_istore X12 hx hby at_86 rfl #[.val (.int x0), .val (.int x1), .val (.int ((395 : Int32) + (x1 &&& (15 : Int32)))), .val (.int ((592 : Int32) + (((x1.toUInt32 >>> ((4 : Int32) &&& 31).toUInt32).toInt32) &&& (15 : Int32)))), .val (.int ((400 : Int32) + ((x1 &&& (2147483647 : Int32)) % (200 : Int32)))), .val (.int (1 : Int32)), .val (.int (1 : Int32)), .val (.int (1 : Int32)), .unset] rfl ?_
  refine own_iload X12 hx hby at_88 rfl rfl ?_
  refine own_static X12 hx hby hZ (argsL := [(.int ((400 : Int32) + ((x1 &&& (2147483647 : Int32)) % (200 : Int32))))]) (rest := []) hown (hw _ tw_1) (hw _ tw_2) (hw _ tw_3) (hw _ tw_4) (by decide) (rm1 l Z a0 hw ((400 : Int32) + ((x1 &&& (2147483647 : Int32)) % (200 : Int32))) h0) e12 (by rw [hml]; rfl) pd_0 rfl (by decide) (W := 0) (Nat.le_refl _) (by decide) (by decide) (by decide) at_90 rfl rfl (fun v14 T14 L14 X14 hQ14 => ?_)
  obtain ⟨rfl, rfl, e14⟩ := hQ14
  show Ends p.tables e below _ (T14.setTop (mkF m 93 #[.val (.int x0), .val (.int x1), .val (.int ((395 : Int32) + (x1 &&& (15 : Int32)))), .val (.int ((592 : Int32) + (((x1.toUInt32 >>> ((4 : Int32) &&& 31).toUInt32).toInt32) &&& (15 : Int32)))), .val (.int ((400 : Int32) + ((x1 &&& (2147483647 : Int32)) % (200 : Int32)))), .val (.int (1 : Int32)), .val (.int (1 : Int32)), .val (.int (1 : Int32)), .unset] [(.int (own_es ((400 : Int32) + ((x1 &&& (2147483647 : Int32)) % (200 : Int32)))))]))
  refine own_istore X14 hx hby at_93 rfl #[.val (.int x0), .val (.int x1), .val (.int ((395 : Int32) + (x1 &&& (15 : Int32)))), .val (.int ((592 : Int32) + (((x1.toUInt32 >>> ((4 : Int32) &&& 31).toUInt32).toInt32) &&& (15 : Int32)))), .val (.int ((400 : Int32) + ((x1 &&& (2147483647 : Int32)) % (200 : Int32)))), .val (.int (1 : Int32)), .val (.int (1 : Int32)), .val (.int (1 : Int32)), .val (.int (own_es ((400 : Int32) + ((x1 &&& (2147483647 : Int32)) % (200 : Int32)))))] rfl ?_
  refine own_iload X14 hx hby at_95 rfl rfl ?_
  refine own_if_eq X14 hx hby at_97 (pcY := 119) (pcN := 100) (by decide) rfl (fun (hc15 : (1 : Int32) = (0 : Int32)) => False.elim (by exact absurd hc15 (by decide))) (fun (hc15 : ¬ (1 : Int32) = (0 : Int32)) => ?_)
  refine own_iload X14 hx hby at_100 rfl rfl ?_
  refine own_if_eq X14 hx hby at_102 (pcY := 119) (pcN := 105) (by decide) rfl (fun (hc16 : (1 : Int32) = (0 : Int32)) => False.elim (by exact absurd hc16 (by decide))) (fun (hc16 : ¬ (1 : Int32) = (0 : Int32)) => ?_)
  refine own_iload X14 hx hby at_105 rfl rfl ?_
  refine own_if_eq X14 hx hby at_107 (pcY := 119) (pcN := 110) (by decide) rfl (fun (hc17 : (1 : Int32) = (0 : Int32)) => False.elim (by exact absurd hc17 (by decide))) (fun (hc17 : ¬ (1 : Int32) = (0 : Int32)) => ?_)
  refine own_iload X14 hx hby at_110 rfl rfl ?_
  refine own_if_eq X14 hx hby at_112 (pcY := 119) (pcN := 115) (by decide) rfl (fun (hc18 : (own_es ((400 : Int32) + ((x1 &&& (2147483647 : Int32)) % (200 : Int32)))) = (0 : Int32)) => False.elim (by rw [own_inside] at hc18; exact absurd hc18 (by decide))) (fun (hc18 : ¬ (own_es ((400 : Int32) + ((x1 &&& (2147483647 : Int32)) % (200 : Int32)))) = (0 : Int32)) => ?_)
  refine own_iconst X14 hx hby at_115 rfl (1 : Int32) rfl ?_
  refine own_goto X14 hx hby at_116 (pc' := 120) (by decide) ?_
  refine own_ret X14 hx hby hret hlk at_120 (.int (1 : Int32)) rfl (Or.inl ⟨rfl, by simp, _, rfl⟩) (by decide) (by decide) ?_
  exact ⟨rfl, (Fr.app (Fr.app (Fr.app (Fr.app (Fr.app (Fr.app (Fr.app N0 (Fr.nil _)) (Fr.nil _)) (Fr.nil _)) (Fr.nil _)) (Fr.nil _)) (Fr.nil _)) (Fr.nil _))⟩
set_option maxRecDepth 65536 in
set_option maxHeartbeats 40000000 in
theorem comes_1 {Post : Tables → Env → Array Value → State → Outcome → State → Prop} (hpost : ∀ tb e args s v u, (limb_1_1.after args s (.returned v) u = true ∧ limb_1_2.after args s (.returned v) u = true ∧ True) → FrameEnd s (.returned v) u (Jvm.fieldLocs frame_1_writes args s ++ Jvm.arrayLocs frame_1_arrays args s ++ Jvm.staticLocs frame_1_statics s) 0 0 → Post tb e args s (.returned v) u) :
    ArmFor flags0 classFile x code maxLocals ret World_1 tables_1 room_1 Calls_1 rest_1 Pre_1 Post := by
  intro l hfl _ _ p e ha hc hk s m args below hf hA hF happ hP
  obtain ⟨hcalls, hrest, hpre⟩ := hP
  obtain ⟨-, -, -, hnamed, -, -, -, hat⟩ := (Spec.applies_iff hf).mp happ
  obtain ⟨hg, hn⟩ := and_e (Cond.before_iff.mp (show (Jvm.Cond.and given_1 narrow_1).before args s = true from hpre))
  obtain ⟨hcount, hg0⟩ := and_e hg
  obtain ⟨hv0, hg1⟩ := and_e hg0
  have hv1 := hg1
  obtain ⟨w0, w1, rfl⟩ : ∃ w0 w1 : Value, args = #[w0, w1] := by
    have hs : args.size = 2 := by simpa [Cond.value, given_1] using hcount
    obtain ⟨L⟩ := args
    match L, hs with
    | [w0, w1], _ => exact ⟨w0, w1, rfl⟩
  have hw := fun d (hd : d ∈ tables_1) => atoms_spec (ws := Jvm.Cond.code x code maxLocals ret :: tables_1) hat d (List.mem_cons_of_mem _ hd)
  have hfit : Fit s := fun {y c} hc i hi => by
    obtain ⟨ha, rfl⟩ := Array.getElem?_eq_some_iff.mp hc
    have q := List.all_eq_true.mp ((Array.all_eq_true_iff_forall_mem.mp hF) _ (Array.getElem_mem ha)) i (List.mem_range.mpr hi)
    simpa [Array.getElem?_eq_getElem hi] using q
  obtain ⟨i0, ei0⟩ := is_v hv0
  obtain rfl : w0 = (.int i0) := Option.some.inj ei0
  obtain ⟨i1, ei1⟩ := is_v hv1
  obtain rfl : w1 = (.int i1) := Option.some.inj ei1
  obtain ⟨n, o, h1, h2, h3, _, L, rfl, ⟨rfl, N⟩, hq⟩ := rm0 l s _ hw i0 i1 s.heap s.heap.size p e ha hc hk s m _ below hf ((Spec.applies_iff_loose hf).mp happ).1 ⟨rfl, State.Warmed39.refl s, rfl⟩ trivial
  refine ⟨n, _, h1, h2, h3, hpost _ _ _ _ _ _ ⟨Cond.after_iff.mpr rfl, Cond.after_iff.mpr (eq_i res_at (Term.int_eval (1)) rfl), trivial⟩ ⟨hq.1, hq.2.1, (hq.2.2.sift fun y hy => Or.inr (N y hy)).mono (by decide) (by decide)⟩⟩
theorem main_1_1 : Claimed_1_1 := comes_1 fun _ _ _ _ _ _ h hF => ⟨h.1, hF⟩
theorem main_1_2 : Claimed_1_2 := comes_1 fun _ _ _ _ _ _ h hF => ⟨h.2.1, hF⟩
end Jvm.Pilot.@@N@@
namespace Jvm.Pilot.@@N@@
open Jvm Jvm.ClassFile Sem Op Lib Jvm.Free Jvm.Stand Jvm.Pilot.@@N@@.Jvm.D
/-! MADE BY PROGRAM (witnessworld.py) out of the Statement's table words and the real class files: 13 classes; the members and pool entries that the words name. The judged class is class 1, her method 2. -/
namespace start1
open Jvm.ClassFile
def u (s : String) : CpInfo := .utf8 (stringToUtf16 s)
/-- a pool by its gaps: so many unusable entries, then the entry; so many at the end -/
def gap : Nat → List CpInfo → List CpInfo
  | 0, r => r
  | n + 1, r => .unusable :: gap n r
def poolList (es : List (Nat × CpInfo)) (last : Nat) : List CpInfo := es.foldr (fun e r => gap e.1 (e.2 :: r)) (gap last [])
def pool (es : List (Nat × CpInfo)) (last : Nat) : Array CpInfo := ⟨poolList es last⟩
def fileOf (pool : Array CpInfo) (this : Nat) (attrs : Array Attribute := #[]) (ms : Array MethodInfo := #[]) (fl : Nat := 33) (sup : Nat := 0) (ifs : Array Nat := #[]) (fds : Array FieldInfo := #[]) : ClassFile where
  minorVersion := 0
  majorVersion := 65
  constantPool := pool
  accessFlags := fl
  thisClass := this
  superClass := sup
  interfaces := ifs
  fields := fds
  methods := ms
  attributes := attrs
def plain (name : String) (sup : Option ClassId) : Class where
  name := name
  kind := .ordinary
  loader := none
  accessFlags := 33
  super := sup
  interfaces := #[]
  cf := none
  fields := #[]
  methods := #[]
  instanceTypes := #[]
  staticTypes := #[]
  resolved := #[]
  callSites := []
  init := .initialized
  statics := none
  mirror := none

def pool0 : Array CpInfo := pool [(5, u "<init>"), (0, u "()V"), (1, .class_ 10), (1, u "java/lang/Object")] 113

def k0m0 : Method := { name := "<init>", desc := "()V", sig := { parameters := [], returnType := none }, accessFlags := 1, code := none }
/-- java/lang/Object -/
def k0 : Class := { plain "java/lang/Object" none with
  accessFlags := 33
  interfaces := #[]
  cf := some (fileOf pool0 8 #[] #[{ accessFlags := 1, nameIndex := 5, descriptorIndex := 6, attributes := #[] }] 33 0 #[] #[])
  fields := #[]
  methods := #[k0m0]
  instanceTypes := #[]
  staticTypes := #[]
  resolved := Array.replicate 124 none
  statics := none }

def pool1 : Array CpInfo := pool [(2, .class_ 4), (1, u "java/lang/Object"), (0, u "<init>"), (0, u "()V"), (0, .integer 2147483647), (0, .methodref 9 10), (0, .class_ 11), (0, .nameAndType 12 13), (0, u "com/example/uni_errors/unierrors/BuiltInErrors"), (0, u "errorStatus"), (0, u "(I)Z"), (0, .methodref 15 16), (0, .class_ 17), (0, .nameAndType 18 13), (0, u "com/example/uni_errors/unierrors/BuiltInErrorsErrorStatusPinLaw"), (0, u "ref"), (3, u "law"), (0, u "(II)Z")] 2

def k1m0 : Method := { name := "<init>", desc := "()V", sig := { parameters := [], returnType := none }, accessFlags := 2, code := none }
def k1c1 : Code := { maxStack := 2, maxLocals := 2, code := method_2_code, exceptionTable := #[], attributes := #[] }
def k1m1 : Method := { name := "ref", desc := "(I)Z", sig := { parameters := [.int], returnType := some .boolean }, accessFlags := 10, code := some k1c1 }
def k1c2 : Code := { maxStack := 3, maxLocals := 9, code := code, exceptionTable := #[], attributes := #[] }
def k1m2 : Method := { name := "law", desc := "(II)Z", sig := { parameters := [.int, .int], returnType := some .boolean }, accessFlags := 9, code := some k1c2 }
/-- com/example/uni_errors/unierrors/BuiltInErrorsErrorStatusPinLaw -/
def k1 : Class := { plain "com/example/uni_errors/unierrors/BuiltInErrorsErrorStatusPinLaw" (some 0) with
  accessFlags := 49
  interfaces := #[]
  cf := some (fileOf pool1 15 #[] #[{ accessFlags := 2, nameIndex := 5, descriptorIndex := 6, attributes := #[] }, { accessFlags := 10, nameIndex := 18, descriptorIndex := 13, attributes := #[] }, { accessFlags := 9, nameIndex := 22, descriptorIndex := 23, attributes := #[] }] 49 2 #[] #[])
  fields := #[]
  methods := #[k1m0, k1m1, k1m2]
  instanceTypes := #[]
  staticTypes := #[]
  resolved := Array.replicate 26 none
  statics := none }

def pool2 : Array CpInfo := pool [(1, .class_ 2), (0, u "java/lang/constant/Constable"), (0, .class_ 4), (0, u "java/lang/Object")] 6

/-- java/lang/constant/Constable -/
def k2 : Class := { plain "java/lang/constant/Constable" (some 0) with
  accessFlags := 1537
  interfaces := #[]
  cf := some (fileOf pool2 1 #[] #[] 1537 3 #[] #[])
  fields := #[]
  methods := #[]
  instanceTypes := #[]
  staticTypes := #[]
  resolved := Array.replicate 11 none
  statics := none }

def pool3 : Array CpInfo := pool [(1, .class_ 2), (0, u "java/lang/Comparable"), (0, .class_ 4), (0, u "java/lang/Object")] 7

/-- java/lang/Comparable -/
def k3 : Class := { plain "java/lang/Comparable" (some 0) with
  accessFlags := 1537
  interfaces := #[]
  cf := some (fileOf pool3 1 #[] #[] 1537 3 #[] #[])
  fields := #[]
  methods := #[]
  instanceTypes := #[]
  staticTypes := #[]
  resolved := Array.replicate 12 none
  statics := none }

def pool4 : Array CpInfo := pool [(1, .class_ 2), (0, u "java/io/Serializable"), (0, .class_ 4), (0, u "java/lang/Object")] 2

/-- java/io/Serializable -/
def k4 : Class := { plain "java/io/Serializable" (some 0) with
  accessFlags := 1537
  interfaces := #[]
  cf := some (fileOf pool4 1 #[] #[] 1537 3 #[] #[])
  fields := #[]
  methods := #[]
  instanceTypes := #[]
  staticTypes := #[]
  resolved := Array.replicate 7 none
  statics := none }

def pool5 : Array CpInfo := pool [(2, .class_ 4), (1, u "java/lang/Enum"), (0, u "name"), (0, u "Ljava/lang/String;"), (2, u "ordinal"), (0, u "I"), (1, .class_ 14), (1, u "java/lang/Object"), (4, u "hash"), (86, .class_ 108), (1, u "java/lang/Enum$EnumDesc"), (2, .class_ 112), (0, u "java/lang/constant/Constable"), (0, .class_ 114), (0, u "java/lang/Comparable"), (0, .class_ 116), (0, u "java/io/Serializable")] 87

/-- java/lang/Enum -/
def k5 : Class := { plain "java/lang/Enum" (some 0) with
  accessFlags := 1057
  interfaces := #[2, 3, 4]
  cf := some (fileOf pool5 2 #[.nestMembers #[106]] #[] 1057 12 #[111, 113, 115] #[{ accessFlags := 18, nameIndex := 5, descriptorIndex := 6, attributes := #[] }, { accessFlags := 18, nameIndex := 9, descriptorIndex := 10, attributes := #[] }, { accessFlags := 2, nameIndex := 19, descriptorIndex := 10, attributes := #[] }])
  fields := #[{ name := "name", type := (.object "java/lang/String"), accessFlags := 18, slot := 0, constantValue := 0 }, { name := "ordinal", type := .int, accessFlags := 18, slot := 1, constantValue := 0 }, { name := "hash", type := .int, accessFlags := 2, slot := 2, constantValue := 0 }]
  methods := #[]
  instanceTypes := #[(.object "java/lang/String"), .int, .int]
  staticTypes := #[]
  resolved := Array.replicate 204 none
  statics := none }

def pool6 : Array CpInfo := pool [(2, .class_ 4), (1, u "com/example/uni_errors/unierrors/ErrorCode"), (18, .class_ 24), (0, u "java/lang/Object")] 10

/-- com/example/uni_errors/unierrors/ErrorCode -/
def k6 : Class := { plain "com/example/uni_errors/unierrors/ErrorCode" (some 0) with
  accessFlags := 1537
  interfaces := #[]
  cf := some (fileOf pool6 2 #[] #[] 1537 23 #[] #[])
  fields := #[]
  methods := #[]
  instanceTypes := #[]
  staticTypes := #[]
  resolved := Array.replicate 35 none
  statics := none }

def pool7 : Array CpInfo := pool [(1, .class_ 2), (0, u "com/example/uni_errors/unierrors/BuiltInErrors"), (2, u "VALIDATION"), (0, u "Lcom/example/uni_errors/unierrors/BuiltInErrors;"), (2, u "BAD_REQUEST"), (2, u "UNAUTHORIZED"), (2, u "PAYMENT_REQUIRED"), (2, u "ACCESS_FORBIDDEN"), (2, u "NOT_FOUND"), (2, u "METHOD_NOT_ALLOWED"), (2, u "NOT_ACCEPTABLE"), (2, u "PROXY_AUTHENTICATION_REQUIRED"), (2, u "REQUEST_TIMEOUT"), (2, u "CONFLICT"), (2, u "GONE"), (2, u "LENGTH_REQUIRED"), (2, u "PRECONDITION_FAILED"), (2, u "CONTENT_TOO_LARGE"), (2, u "URI_TOO_LONG"), (2, u "UNSUPPORTED_MEDIA_TYPE"), (2, u "RANGE_NOT_SATISFIABLE"), (2, u "EXPECTATION_FAILED"), (2, u "MISDIRECTED_REQUEST"), (2, u "BUSINESS_RULE"), (2, u "UNPROCESSABLE_CONTENT"), (2, u "DATABASE_LOCKED"), (2, u "LOCKED"), (2, u "FAILED_DEPENDENCY"), (2, u "TOO_EARLY"), (2, u "UPGRADE_REQUIRED"), (2, u "PRECONDITION_REQUIRED"), (2, u "TOO_MANY_REQUESTS"), (2, u "REQUEST_HEADER_FIELDS_TOO_LARGE"), (2, u "UNAVAILABLE_FOR_LEGAL_REASONS"), (2, u "INTERNAL_ERROR"), (2, u "NOT_IMPLEMENTED"), (2, u "BAD_GATEWAY"), (2, u "SERVICE_UNAVAILABLE"), (2, u "GATEWAY_TIMEOUT"), (2, u "HTTP_VERSION_NOT_SUPPORTED"), (2, u "VARIANT_ALSO_NEGOTIATES"), (2, u "INSUFFICIENT_STORAGE"), (2, u "LOOP_DETECTED"), (2, u "NETWORK_AUTHENTICATION_REQUIRED"), (2, u "$VALUES"), (0, u "[Lcom/example/uni_errors/unierrors/BuiltInErrors;"), (6, .class_ 139), (1, u "java/lang/Enum"), (8, u "status"), (0, u "I"), (2, u "title"), (0, u "Ljava/lang/String;"), (2, u "errorStatus"), (0, u "(I)Z"), (2, u "BY_STATUS"), (0, u "Ljava/util/Map;"), (15, .class_ 178), (0, u "com/example/uni_errors/unierrors/ErrorCode"), (0, .class_ 180), (0, u "com/example/uni_errors/unierrors/BuiltInErrors$UnregisteredStatus"), (5, u "REASON_PHRASES"), (8, u "TRANSIENT"), (0, u "Ljava/util/Set;"), (11, u "KINDS")] 244

def k7c0 : Code := { maxStack := 2, maxLocals := 1, code := prog_3_method_6_code, exceptionTable := #[], attributes := #[] }
def k7m0 : Method := { name := "errorStatus", desc := "(I)Z", sig := { parameters := [.int], returnType := some .boolean }, accessFlags := 8, code := some k7c0 }
/-- com/example/uni_errors/unierrors/BuiltInErrors -/
def k7 : Class := { plain "com/example/uni_errors/unierrors/BuiltInErrors" (some 5) with
  accessFlags := 16433
  interfaces := #[6]
  cf := some (fileOf pool7 1 #[.nestMembers #[179]] #[{ accessFlags := 8, nameIndex := 156, descriptorIndex := 157, attributes := #[] }] 16433 137 #[177] #[{ accessFlags := 16409, nameIndex := 5, descriptorIndex := 6, attributes := #[] }, { accessFlags := 16409, nameIndex := 9, descriptorIndex := 6, attributes := #[] }, { accessFlags := 16409, nameIndex := 12, descriptorIndex := 6, attributes := #[] }, { accessFlags := 16409, nameIndex := 15, descriptorIndex := 6, attributes := #[] }, { accessFlags := 16409, nameIndex := 18, descriptorIndex := 6, attributes := #[] }, { accessFlags := 16409, nameIndex := 21, descriptorIndex := 6, attributes := #[] }, { accessFlags := 16409, nameIndex := 24, descriptorIndex := 6, attributes := #[] }, { accessFlags := 16409, nameIndex := 27, descriptorIndex := 6, attributes := #[] }, { accessFlags := 16409, nameIndex := 30, descriptorIndex := 6, attributes := #[] }, { accessFlags := 16409, nameIndex := 33, descriptorIndex := 6, attributes := #[] }, { accessFlags := 16409, nameIndex := 36, descriptorIndex := 6, attributes := #[] }, { accessFlags := 16409, nameIndex := 39, descriptorIndex := 6, attributes := #[] }, { accessFlags := 16409, nameIndex := 42, descriptorIndex := 6, attributes := #[] }, { accessFlags := 16409, nameIndex := 45, descriptorIndex := 6, attributes := #[] }, { accessFlags := 16409, nameIndex := 48, descriptorIndex := 6, attributes := #[] }, { accessFlags := 16409, nameIndex := 51, descriptorIndex := 6, attributes := #[] }, { accessFlags := 16409, nameIndex := 54, descriptorIndex := 6, attributes := #[] }, { accessFlags := 16409, nameIndex := 57, descriptorIndex := 6, attributes := #[] }, { accessFlags := 16409, nameIndex := 60, descriptorIndex := 6, attributes := #[] }, { accessFlags := 16409, nameIndex := 63, descriptorIndex := 6, attributes := #[] }, { accessFlags := 16409, nameIndex := 66, descriptorIndex := 6, attributes := #[] }, { accessFlags := 16409, nameIndex := 69, descriptorIndex := 6, attributes := #[] }, { accessFlags := 16409, nameIndex := 72, descriptorIndex := 6, attributes := #[] }, { accessFlags := 16409, nameIndex := 75, descriptorIndex := 6, attributes := #[] }, { accessFlags := 16409, nameIndex := 78, descriptorIndex := 6, attributes := #[] }, { accessFlags := 16409, nameIndex := 81, descriptorIndex := 6, attributes := #[] }, { accessFlags := 16409, nameIndex := 84, descriptorIndex := 6, attributes := #[] }, { accessFlags := 16409, nameIndex := 87, descriptorIndex := 6, attributes := #[] }, { accessFlags := 16409, nameIndex := 90, descriptorIndex := 6, attributes := #[] }, { accessFlags := 16409, nameIndex := 93, descriptorIndex := 6, attributes := #[] }, { accessFlags := 16409, nameIndex := 96, descriptorIndex := 6, attributes := #[] }, { accessFlags := 16409, nameIndex := 99, descriptorIndex := 6, attributes := #[] }, { accessFlags := 16409, nameIndex := 102, descriptorIndex := 6, attributes := #[] }, { accessFlags := 16409, nameIndex := 105, descriptorIndex := 6, attributes := #[] }, { accessFlags := 16409, nameIndex := 108, descriptorIndex := 6, attributes := #[] }, { accessFlags := 16409, nameIndex := 111, descriptorIndex := 6, attributes := #[] }, { accessFlags := 16409, nameIndex := 114, descriptorIndex := 6, attributes := #[] }, { accessFlags := 16409, nameIndex := 117, descriptorIndex := 6, attributes := #[] }, { accessFlags := 16409, nameIndex := 120, descriptorIndex := 6, attributes := #[] }, { accessFlags := 16409, nameIndex := 123, descriptorIndex := 6, attributes := #[] }, { accessFlags := 16409, nameIndex := 126, descriptorIndex := 6, attributes := #[] }, { accessFlags := 26, nameIndex := 208, descriptorIndex := 196, attributes := #[] }, { accessFlags := 26, nameIndex := 195, descriptorIndex := 196, attributes := #[] }, { accessFlags := 26, nameIndex := 160, descriptorIndex := 161, attributes := #[] }, { accessFlags := 26, nameIndex := 186, descriptorIndex := 161, attributes := #[] }, { accessFlags := 18, nameIndex := 148, descriptorIndex := 149, attributes := #[] }, { accessFlags := 18, nameIndex := 152, descriptorIndex := 153, attributes := #[] }, { accessFlags := 4122, nameIndex := 129, descriptorIndex := 130, attributes := #[] }])
  fields := #[{ name := "VALIDATION", type := (.object "com/example/uni_errors/unierrors/BuiltInErrors"), accessFlags := 16409, slot := 0, constantValue := 0 }, { name := "BAD_REQUEST", type := (.object "com/example/uni_errors/unierrors/BuiltInErrors"), accessFlags := 16409, slot := 1, constantValue := 0 }, { name := "UNAUTHORIZED", type := (.object "com/example/uni_errors/unierrors/BuiltInErrors"), accessFlags := 16409, slot := 2, constantValue := 0 }, { name := "PAYMENT_REQUIRED", type := (.object "com/example/uni_errors/unierrors/BuiltInErrors"), accessFlags := 16409, slot := 3, constantValue := 0 }, { name := "ACCESS_FORBIDDEN", type := (.object "com/example/uni_errors/unierrors/BuiltInErrors"), accessFlags := 16409, slot := 4, constantValue := 0 }, { name := "NOT_FOUND", type := (.object "com/example/uni_errors/unierrors/BuiltInErrors"), accessFlags := 16409, slot := 5, constantValue := 0 }, { name := "METHOD_NOT_ALLOWED", type := (.object "com/example/uni_errors/unierrors/BuiltInErrors"), accessFlags := 16409, slot := 6, constantValue := 0 }, { name := "NOT_ACCEPTABLE", type := (.object "com/example/uni_errors/unierrors/BuiltInErrors"), accessFlags := 16409, slot := 7, constantValue := 0 }, { name := "PROXY_AUTHENTICATION_REQUIRED", type := (.object "com/example/uni_errors/unierrors/BuiltInErrors"), accessFlags := 16409, slot := 8, constantValue := 0 }, { name := "REQUEST_TIMEOUT", type := (.object "com/example/uni_errors/unierrors/BuiltInErrors"), accessFlags := 16409, slot := 9, constantValue := 0 }, { name := "CONFLICT", type := (.object "com/example/uni_errors/unierrors/BuiltInErrors"), accessFlags := 16409, slot := 10, constantValue := 0 }, { name := "GONE", type := (.object "com/example/uni_errors/unierrors/BuiltInErrors"), accessFlags := 16409, slot := 11, constantValue := 0 }, { name := "LENGTH_REQUIRED", type := (.object "com/example/uni_errors/unierrors/BuiltInErrors"), accessFlags := 16409, slot := 12, constantValue := 0 }, { name := "PRECONDITION_FAILED", type := (.object "com/example/uni_errors/unierrors/BuiltInErrors"), accessFlags := 16409, slot := 13, constantValue := 0 }, { name := "CONTENT_TOO_LARGE", type := (.object "com/example/uni_errors/unierrors/BuiltInErrors"), accessFlags := 16409, slot := 14, constantValue := 0 }, { name := "URI_TOO_LONG", type := (.object "com/example/uni_errors/unierrors/BuiltInErrors"), accessFlags := 16409, slot := 15, constantValue := 0 }, { name := "UNSUPPORTED_MEDIA_TYPE", type := (.object "com/example/uni_errors/unierrors/BuiltInErrors"), accessFlags := 16409, slot := 16, constantValue := 0 }, { name := "RANGE_NOT_SATISFIABLE", type := (.object "com/example/uni_errors/unierrors/BuiltInErrors"), accessFlags := 16409, slot := 17, constantValue := 0 }, { name := "EXPECTATION_FAILED", type := (.object "com/example/uni_errors/unierrors/BuiltInErrors"), accessFlags := 16409, slot := 18, constantValue := 0 }, { name := "MISDIRECTED_REQUEST", type := (.object "com/example/uni_errors/unierrors/BuiltInErrors"), accessFlags := 16409, slot := 19, constantValue := 0 }, { name := "BUSINESS_RULE", type := (.object "com/example/uni_errors/unierrors/BuiltInErrors"), accessFlags := 16409, slot := 20, constantValue := 0 }, { name := "UNPROCESSABLE_CONTENT", type := (.object "com/example/uni_errors/unierrors/BuiltInErrors"), accessFlags := 16409, slot := 21, constantValue := 0 }, { name := "DATABASE_LOCKED", type := (.object "com/example/uni_errors/unierrors/BuiltInErrors"), accessFlags := 16409, slot := 22, constantValue := 0 }, { name := "LOCKED", type := (.object "com/example/uni_errors/unierrors/BuiltInErrors"), accessFlags := 16409, slot := 23, constantValue := 0 }, { name := "FAILED_DEPENDENCY", type := (.object "com/example/uni_errors/unierrors/BuiltInErrors"), accessFlags := 16409, slot := 24, constantValue := 0 }, { name := "TOO_EARLY", type := (.object "com/example/uni_errors/unierrors/BuiltInErrors"), accessFlags := 16409, slot := 25, constantValue := 0 }, { name := "UPGRADE_REQUIRED", type := (.object "com/example/uni_errors/unierrors/BuiltInErrors"), accessFlags := 16409, slot := 26, constantValue := 0 }, { name := "PRECONDITION_REQUIRED", type := (.object "com/example/uni_errors/unierrors/BuiltInErrors"), accessFlags := 16409, slot := 27, constantValue := 0 }, { name := "TOO_MANY_REQUESTS", type := (.object "com/example/uni_errors/unierrors/BuiltInErrors"), accessFlags := 16409, slot := 28, constantValue := 0 }, { name := "REQUEST_HEADER_FIELDS_TOO_LARGE", type := (.object "com/example/uni_errors/unierrors/BuiltInErrors"), accessFlags := 16409, slot := 29, constantValue := 0 }, { name := "UNAVAILABLE_FOR_LEGAL_REASONS", type := (.object "com/example/uni_errors/unierrors/BuiltInErrors"), accessFlags := 16409, slot := 30, constantValue := 0 }, { name := "INTERNAL_ERROR", type := (.object "com/example/uni_errors/unierrors/BuiltInErrors"), accessFlags := 16409, slot := 31, constantValue := 0 }, { name := "NOT_IMPLEMENTED", type := (.object "com/example/uni_errors/unierrors/BuiltInErrors"), accessFlags := 16409, slot := 32, constantValue := 0 }, { name := "BAD_GATEWAY", type := (.object "com/example/uni_errors/unierrors/BuiltInErrors"), accessFlags := 16409, slot := 33, constantValue := 0 }, { name := "SERVICE_UNAVAILABLE", type := (.object "com/example/uni_errors/unierrors/BuiltInErrors"), accessFlags := 16409, slot := 34, constantValue := 0 }, { name := "GATEWAY_TIMEOUT", type := (.object "com/example/uni_errors/unierrors/BuiltInErrors"), accessFlags := 16409, slot := 35, constantValue := 0 }, { name := "HTTP_VERSION_NOT_SUPPORTED", type := (.object "com/example/uni_errors/unierrors/BuiltInErrors"), accessFlags := 16409, slot := 36, constantValue := 0 }, { name := "VARIANT_ALSO_NEGOTIATES", type := (.object "com/example/uni_errors/unierrors/BuiltInErrors"), accessFlags := 16409, slot := 37, constantValue := 0 }, { name := "INSUFFICIENT_STORAGE", type := (.object "com/example/uni_errors/unierrors/BuiltInErrors"), accessFlags := 16409, slot := 38, constantValue := 0 }, { name := "LOOP_DETECTED", type := (.object "com/example/uni_errors/unierrors/BuiltInErrors"), accessFlags := 16409, slot := 39, constantValue := 0 }, { name := "NETWORK_AUTHENTICATION_REQUIRED", type := (.object "com/example/uni_errors/unierrors/BuiltInErrors"), accessFlags := 16409, slot := 40, constantValue := 0 }, { name := "KINDS", type := (.object "java/util/Set"), accessFlags := 26, slot := 41, constantValue := 0 }, { name := "TRANSIENT", type := (.object "java/util/Set"), accessFlags := 26, slot := 42, constantValue := 0 }, { name := "BY_STATUS", type := (.object "java/util/Map"), accessFlags := 26, slot := 43, constantValue := 0 }, { name := "REASON_PHRASES", type := (.object "java/util/Map"), accessFlags := 26, slot := 44, constantValue := 0 }, { name := "status", type := .int, accessFlags := 18, slot := 3, constantValue := 0 }, { name := "title", type := (.object "java/lang/String"), accessFlags := 18, slot := 4, constantValue := 0 }, { name := "$VALUES", type := (.array (.object "com/example/uni_errors/unierrors/BuiltInErrors")), accessFlags := 4122, slot := 45, constantValue := 0 }]
  methods := #[k7m0]
  instanceTypes := #[(.object "java/lang/String"), .int, .int, .int, (.object "java/lang/String")]
  staticTypes := #[(.object "com/example/uni_errors/unierrors/BuiltInErrors"), (.object "com/example/uni_errors/unierrors/BuiltInErrors"), (.object "com/example/uni_errors/unierrors/BuiltInErrors"), (.object "com/example/uni_errors/unierrors/BuiltInErrors"), (.object "com/example/uni_errors/unierrors/BuiltInErrors"), (.object "com/example/uni_errors/unierrors/BuiltInErrors"), (.object "com/example/uni_errors/unierrors/BuiltInErrors"), (.object "com/example/uni_errors/unierrors/BuiltInErrors"), (.object "com/example/uni_errors/unierrors/BuiltInErrors"), (.object "com/example/uni_errors/unierrors/BuiltInErrors"), (.object "com/example/uni_errors/unierrors/BuiltInErrors"), (.object "com/example/uni_errors/unierrors/BuiltInErrors"), (.object "com/example/uni_errors/unierrors/BuiltInErrors"), (.object "com/example/uni_errors/unierrors/BuiltInErrors"), (.object "com/example/uni_errors/unierrors/BuiltInErrors"), (.object "com/example/uni_errors/unierrors/BuiltInErrors"), (.object "com/example/uni_errors/unierrors/BuiltInErrors"), (.object "com/example/uni_errors/unierrors/BuiltInErrors"), (.object "com/example/uni_errors/unierrors/BuiltInErrors"), (.object "com/example/uni_errors/unierrors/BuiltInErrors"), (.object "com/example/uni_errors/unierrors/BuiltInErrors"), (.object "com/example/uni_errors/unierrors/BuiltInErrors"), (.object "com/example/uni_errors/unierrors/BuiltInErrors"), (.object "com/example/uni_errors/unierrors/BuiltInErrors"), (.object "com/example/uni_errors/unierrors/BuiltInErrors"), (.object "com/example/uni_errors/unierrors/BuiltInErrors"), (.object "com/example/uni_errors/unierrors/BuiltInErrors"), (.object "com/example/uni_errors/unierrors/BuiltInErrors"), (.object "com/example/uni_errors/unierrors/BuiltInErrors"), (.object "com/example/uni_errors/unierrors/BuiltInErrors"), (.object "com/example/uni_errors/unierrors/BuiltInErrors"), (.object "com/example/uni_errors/unierrors/BuiltInErrors"), (.object "com/example/uni_errors/unierrors/BuiltInErrors"), (.object "com/example/uni_errors/unierrors/BuiltInErrors"), (.object "com/example/uni_errors/unierrors/BuiltInErrors"), (.object "com/example/uni_errors/unierrors/BuiltInErrors"), (.object "com/example/uni_errors/unierrors/BuiltInErrors"), (.object "com/example/uni_errors/unierrors/BuiltInErrors"), (.object "com/example/uni_errors/unierrors/BuiltInErrors"), (.object "com/example/uni_errors/unierrors/BuiltInErrors"), (.object "com/example/uni_errors/unierrors/BuiltInErrors"), (.object "java/util/Set"), (.object "java/util/Set"), (.object "java/util/Map"), (.object "java/util/Map"), (.array (.object "com/example/uni_errors/unierrors/BuiltInErrors"))]
  resolved := Array.replicate 453 none
  statics := none }

def pool8 : Array CpInfo := pool [(1, u "java/lang/Cloneable"), (0, .class_ 1), (0, u "java/lang/Object"), (0, .class_ 3)] 3

/-- java/lang/Cloneable -/
def k8 : Class := { plain "java/lang/Cloneable" (some 0) with
  accessFlags := 1537
  interfaces := #[]
  cf := some (fileOf pool8 2 #[] #[] 1537 4 #[] #[])
  fields := #[]
  methods := #[]
  instanceTypes := #[]
  staticTypes := #[]
  resolved := Array.replicate 8 none
  statics := none }

/-- the primitive byte -/
def k9 : Class := { plain "byte" none with kind := .primitive 'B', accessFlags := 0x411 }
/-- [B -/
def k10 : Class := { plain "[B" (some 0) with kind := .array 9 .byte, interfaces := #[8, 4], accessFlags := 1041 }

/-- the primitive int -/
def k11 : Class := { plain "int" none with kind := .primitive 'I', accessFlags := 0x411 }
/-- [I -/
def k12 : Class := { plain "[I" (some 0) with kind := .array 11 .int, interfaces := #[8, 4], accessFlags := 1041 }

def heap : Heap := #[]
def classes : Array Class := #[k0, k1, k2, k3, k4, k5, k6, k7, k8, k9, k10, k11, k12]
def interned : List (Array UInt16 × Addr) := []
def slotsUsed : Nat := 0
def theMethod : MethodId := ⟨1, 2⟩
def args0 : Array Value := #[.int 5, .int 5]
def aboutOver (below : List Frame) : State where
  vm := { classes := classes, interned := interned.toArray }
  heap := heap
  slotsUsed := slotsUsed
  threads := #[{ frames := .invoking theMethod args0 :: below }]
def below0 : List Frame := [.native { method := ⟨0, 0⟩, args := #[] }]
def about1 : State := aboutOver below0
def p0 : Program := .bare "" "" ""
def e0 : Env := launch0.env 0 0 0
theorem w_frames : about1.frames = Frame.invoking theMethod args0 :: below0 := rfl
set_option maxRecDepth 65536 in
theorem w_args : argsFit about1.vm theMethod args0 = true := by decide +kernel
set_option maxRecDepth 65536 in
theorem w_heap : heapFits about1 = true := by decide +kernel
set_option maxRecDepth 65536 in
theorem w_runnable : about1.curStatus? = some .runnable := by decide +kernel
set_option maxRecDepth 65536 in
theorem w_alone : about1.alone = true := by decide +kernel
set_option maxRecDepth 65536 in
theorem w_named : about1.methodNamed? x = some theMethod := by decide +kernel
set_option maxRecDepth 65536 in
theorem w_hears : about1.hears theMethod below0 = true := by decide +kernel
set_option maxRecDepth 65536 in
theorem w_ripe : about1.ripe theMethod args0 below0 = true := by decide +kernel
theorem w_running : about1.status = .running := rfl
set_option maxRecDepth 65536 in
theorem w_room : about1.hasRoom e0.platform room_1 = true :=
  launch0.hasRoom_least _ room_1 (by decide +kernel) (by decide +kernel) (by decide +kernel) (by decide +kernel) (by decide +kernel) (by decide +kernel)
theorem allAtoms_all (ts : List Jvm.Cond) (a : Array Jvm.Value) (st : Jvm.State) : (allAtoms ts).before a st = ts.all (fun c => c.before a st) := by
  induction ts with
  | nil => rfl
  | cons c t ih =>
    show (Jvm.Cond.and c (allAtoms t)).before a st = _
    rw [Jvm.Cond.before_and, ih, List.all_cons]
def words1 : List Jvm.Cond := Jvm.Cond.code x code maxLocals ret :: tables_1
/-- a 'code' word, met by the world's own term for the bytes: nothing is compared byte by byte -/
theorem code_word {y : MethodName} {bytes : ByteArray} {mx : Nat} {rt : Option FieldType} {a : Array Value} {s : State} {m : MethodId} {meth : Method} {c : Code} (h1 : s.methodNamed? y = some m) (h2 : s.vm.method? m = some meth) (h3 : meth.code = some c) (h4 : c.code = bytes)
    (h5 : (c.maxLocals == mx && c.exceptionTable.isEmpty && decide (c.maxStack ≤ mostOperands) && decide (meth.sig.returnType = rt) && !meth.locks && decide (parseMethodDescriptor y.desc = some meth.sig)) = true) : (Jvm.Cond.code y bytes mx rt).before a s = true := by
  simp only [Bool.and_eq_true, beq_iff_eq, Bool.not_eq_true', decide_eq_true_eq] at h5
  obtain ⟨⟨⟨⟨⟨g1, g2⟩, g3⟩, g4⟩, g5⟩, g6⟩ := h5
  simp [Cond.before, Cond.holds, Cond.value, h1, h2, h3, h4, g1, g2, g3, g4, g5, g6]
def isCode : Jvm.Cond → Bool
  | .code _ _ _ _ => true
  | _ => false
theorem all_split {L : List Jvm.Cond} {P : Jvm.Cond → Bool} (h1 : L.all (fun c => isCode c || P c) = true) (h2 : ∀ c ∈ L.filter isCode, P c = true) : L.all P = true := by
  refine List.all_eq_true.mpr fun c hc => ?_
  have h := List.all_eq_true.mp h1 c hc
  rcases Bool.eq_false_or_eq_true (isCode c) with hi | hi
  · exact h2 c (List.mem_filter.mpr ⟨hc, hi⟩)
  · simpa [hi] using h
set_option maxRecDepth 65536 in
theorem w_c0 : (Jvm.Cond.code x code maxLocals ret).before args0 about1 = true := code_word (m := ⟨1, 2⟩) (meth := k1m2) (c := k1c2) (by decide +kernel) rfl rfl rfl (by decide +kernel)
set_option maxRecDepth 65536 in
theorem w_c1 : (Jvm.Cond.code ({ cls := "com/example/uni_errors/unierrors/BuiltInErrors", name := "errorStatus", desc := "(I)Z" } : Jvm.MethodName) prog_3_method_6_code (1 : Nat) (Option.some Jvm.ClassFile.FieldType.boolean)).before args0 about1 = true := code_word (m := ⟨7, 0⟩) (meth := k7m0) (c := k7c0) (by decide +kernel) rfl rfl rfl (by decide +kernel)
set_option maxRecDepth 65536 in
theorem w_c2 : (Jvm.Cond.code ({ cls := "com/example/uni_errors/unierrors/BuiltInErrorsErrorStatusPinLaw", name := "ref", desc := "(I)Z" } : Jvm.MethodName) method_2_code (2 : Nat) (Option.some Jvm.ClassFile.FieldType.boolean)).before args0 about1 = true := code_word (m := ⟨1, 1⟩) (meth := k1m1) (c := k1c1) (by decide +kernel) rfl rfl rfl (by decide +kernel)
def codes1 : List Jvm.Cond := [Jvm.Cond.code x code maxLocals ret, Jvm.Cond.code ({ cls := "com/example/uni_errors/unierrors/BuiltInErrors", name := "errorStatus", desc := "(I)Z" } : Jvm.MethodName) prog_3_method_6_code (1 : Nat) (Option.some Jvm.ClassFile.FieldType.boolean), Jvm.Cond.code ({ cls := "com/example/uni_errors/unierrors/BuiltInErrorsErrorStatusPinLaw", name := "ref", desc := "(I)Z" } : Jvm.MethodName) method_2_code (2 : Nat) (Option.some Jvm.ClassFile.FieldType.boolean)]
set_option maxRecDepth 65536 in
theorem codes_eq : words1.filter isCode = codes1 := rfl
theorem w_codes : ∀ c ∈ words1.filter isCode, c.before args0 about1 = true := by
  rw [codes_eq]
  intro c hc
  simp only [codes1, List.mem_cons, List.not_mem_nil, or_false] at hc
  rcases hc with rfl | rfl | rfl
  · exact w_c0
  · exact w_c1
  · exact w_c2
set_option maxRecDepth 65536 in
theorem w_t1 : words1.all (fun c => isCode c || c.before args0 about1) = true := by decide +kernel
theorem w_tables : (allAtoms (Jvm.Cond.code x code maxLocals ret :: tables_1)).before args0 about1 = true := by
  rw [allAtoms_all]
  show words1.all (fun c => c.before args0 about1) = true
  refine all_split ?_ w_codes
  rw [w_t1]
set_option maxRecDepth 65536 in
theorem w_case : (Jvm.Cond.and given_1 narrow_1).before args0 about1 = true := by decide +kernel
theorem w_applies : (headSpec (Jvm.Cond.code x code maxLocals ret :: tables_1) room_1).applies x e0.platform about1 = true :=
  (Spec.applies_iff w_frames).mpr ⟨w_running, w_runnable, w_alone, w_named, w_hears, w_ripe, w_room, w_tables⟩
theorem atStart : AtStart classFile x code maxLocals ret World_1 tables_1 room_1 Calls_1 rest_1 Pre_1 launch0 p0 e0 about1 theMethod args0 below0 :=
  ⟨lists_1, trivial, launch0.admits_env _ _ _, launch0.least_env, fairChoices_fair.cas, fairChoices_fair.clock, w_frames, w_args, w_heap, w_applies, trivial, trivial, w_case⟩
end start1
theorem witness_1 : WitnessClaimed_1 := ⟨start1.p0, start1.e0, start1.about1, start1.theMethod, start1.args0, start1.below0, start1.atStart⟩
end Jvm.Pilot.@@N@@

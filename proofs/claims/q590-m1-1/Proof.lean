import JvmDerived
import JvmDerived.Pilot.@@N@@Statement
import JvmDerived.Pilot.@@N@@Code
set_option linter.unusedVariables false
set_option linter.unusedSimpArgs false
namespace Jvm.Pilot.@@N@@
open Jvm Jvm.ClassFile Sem Op Lib Jvm.Free Jvm.Stand Jvm.LawKit Jvm.RoadKit Bundle Jvm.Pilot.@@N@@.Jvm.D
/-! THE LAYER own_: 'Ends': from this state the body ends as Q says; one lemma an instruction, over frames in the form mkF -/
section Own
variable {p : Program} {l : Launch} {e : Env} {R : Room} {s : State} {m : MethodId} {args : Array Value} {below : List Frame} {meth : Method} {c : Code} {T : State} {locs : List Loc} {cells slots : Nat}
variable {Q : Option Value → Heap → List Loc → Prop} {C S : Nat} {bc : ByteArray} {pc pc' : Nat} {Ls Ls' : Array Slot} {st : List Value} {Fz : Outcome → State → Prop}
def Ends (tb : Tables) (e : Env) (below : List Frame) (Fz : Outcome → State → Prop) (t : State) : Prop :=
  ∃ s₂ o, Steps tb e below t s₂ ∧ s₂.status = .running ∧ Ended s₂ below o ∧ Fz o s₂
def OwnFin (s : State) (Q : Option Value → Heap → List Loc → Prop) (C S : Nat) (o : Outcome) (s₂ : State) : Prop := ∃ v L, o = .returned v ∧ Q v s₂.heap L ∧ FrameEnd s o s₂ L C S
theorem Ends.of {tb : Tables} {t t' : State} (st : ∀ target, Steps tb e below t' target → Steps tb e below t target) (k : Ends tb e below Fz t') : Ends tb e below Fz t := by
  obtain ⟨s₂, o, h1, h2⟩ := k
  exact ⟨s₂, o, st _ h1, h2⟩
theorem Ends.tr {tb : Tables} {t t' : State} (st : Steps tb e below t t') (k : Ends tb e below Fz t') : Ends tb e below Fz t := Ends.of (fun _ q => st.trans q) k
theorem own_iloadN (X : Stand p l e R s m args below meth c T locs cells slots) (hx : p.tables.exec = Jvm.exec) (hby : c.code = bc) {k : Fin 4} {v : Int32} (hd : decode bc pc = .ok (.iload_n k, 1)) (hp : pc + 1 = pc') (hl : Ls[k.val]? = some (.val (.int v)))
    (kt : Ends p.tables e below Fz (T.setTop (mkF m pc' Ls (.int v :: st)))) : Ends p.tables e below Fz (T.setTop (mkF m pc Ls st)) := by
  subst hp; exact Ends.of (fun _ q => XS.iloadN X.here hx rfl (hb hby hd) hl q) kt
theorem own_aloadN (X : Stand p l e R s m args below meth c T locs cells slots) (hx : p.tables.exec = Jvm.exec) (hby : c.code = bc) {k : Fin 4} {v : Value} (hd : decode bc pc = .ok (.aload_n k, 1)) (hp : pc + 1 = pc') (hl : Ls[k.val]? = some (.val v)) (hv : v.isRef = true)
    (kt : Ends p.tables e below Fz (T.setTop (mkF m pc' Ls (v :: st)))) : Ends p.tables e below Fz (T.setTop (mkF m pc Ls st)) := by
  subst hp; exact Ends.of (fun _ q => XS.aloadN X.here hx rfl (hb hby hd) hl hv q) kt
theorem own_aload (X : Stand p l e R s m args below meth c T locs cells slots) (hx : p.tables.exec = Jvm.exec) (hby : c.code = bc) {k : Nat} {v : Value} (hd : decode bc pc = .ok (.aload k, 2)) (hp : pc + 2 = pc') (hl : Ls[k]? = some (.val v)) (hv : v.isRef = true)
    (kt : Ends p.tables e below Fz (T.setTop (mkF m pc' Ls (v :: st)))) : Ends p.tables e below Fz (T.setTop (mkF m pc Ls st)) := by
  subst hp; exact Ends.of (fun _ q => XS.aload X.here hx rfl (hb hby hd) hl hv q) kt
theorem own_istoreN (X : Stand p l e R s m args below meth c T locs cells slots) (hx : p.tables.exec = Jvm.exec) (hby : c.code = bc) {k : Fin 4} {v : Int32} (hd : decode bc pc = .ok (.istore_n k, 1)) (hp : pc + 1 = pc') (Ls' : Array Slot) (hl : storeLocals Ls k.val (.int v) = some Ls')
    (kt : Ends p.tables e below Fz (T.setTop (mkF m pc' Ls' st))) : Ends p.tables e below Fz (T.setTop (mkF m pc Ls (.int v :: st))) := by
  subst hp; exact Ends.of (fun _ q => XS.istoreN X.here hx rfl (hb hby hd) rfl hl q) kt
theorem own_astoreN (X : Stand p l e R s m args below meth c T locs cells slots) (hx : p.tables.exec = Jvm.exec) (hby : c.code = bc) {k : Fin 4} {v : Value} (hd : decode bc pc = .ok (.astore_n k, 1)) (hp : pc + 1 = pc') (Ls' : Array Slot) (hv : v.isRef = true) (hl : storeLocals Ls k.val v = some Ls')
    (kt : Ends p.tables e below Fz (T.setTop (mkF m pc' Ls' st))) : Ends p.tables e below Fz (T.setTop (mkF m pc Ls (v :: st))) := by
  subst hp; exact Ends.of (fun _ q => XS.astoreN X.here hx rfl (hb hby hd) rfl hv hl q) kt
theorem own_astore (X : Stand p l e R s m args below meth c T locs cells slots) (hx : p.tables.exec = Jvm.exec) (hby : c.code = bc) {k : Nat} {v : Value} (hd : decode bc pc = .ok (.astore k, 2)) (hp : pc + 2 = pc') (Ls' : Array Slot) (hv : v.isRef = true) (hl : storeLocals Ls k v = some Ls')
    (kt : Ends p.tables e below Fz (T.setTop (mkF m pc' Ls' st))) : Ends p.tables e below Fz (T.setTop (mkF m pc Ls (v :: st))) := by
  subst hp; exact Ends.of (fun _ q => XS.astore X.here hx rfl (hb hby hd) rfl hv hl q) kt
theorem own_iconst (X : Stand p l e R s m args below meth c T locs cells slots) (hx : p.tables.exec = Jvm.exec) (hby : c.code = bc) {i : Int} (hd : decode bc pc = .ok (.iconst i, 1)) (hp : pc + 1 = pc') (v : Int32) (hv : Int32.ofInt i = v)
    (kt : Ends p.tables e below Fz (T.setTop (mkF m pc' Ls (.int v :: st)))) : Ends p.tables e below Fz (T.setTop (mkF m pc Ls st)) := by
  subst hp; exact Ends.of (fun _ q => by subst hv; exact XS.iconst X.here hx rfl (hb hby hd) q) kt
theorem own_bipush (X : Stand p l e R s m args below meth c T locs cells slots) (hx : p.tables.exec = Jvm.exec) (hby : c.code = bc) {i : Int} (hd : decode bc pc = .ok (.bipush i, 2)) (hp : pc + 2 = pc') (v : Int32) (hv : (Int8.ofInt i).toInt32 = v)
    (kt : Ends p.tables e below Fz (T.setTop (mkF m pc' Ls (.int v :: st)))) : Ends p.tables e below Fz (T.setTop (mkF m pc Ls st)) := by
  subst hp; exact Ends.of (fun _ q => by subst hv; exact XS.bipush X.here hx rfl (hb hby hd) q) kt
theorem own_iadd (X : Stand p l e R s m args below meth c T locs cells slots) (hx : p.tables.exec = Jvm.exec) (hby : c.code = bc) {x y : Int32} (hd : decode bc pc = .ok (.iadd, 1)) (hp : pc + 1 = pc')
    (kt : Ends p.tables e below Fz (T.setTop (mkF m pc' Ls (.int (x + y) :: st)))) : Ends p.tables e below Fz (T.setTop (mkF m pc Ls (.int y :: .int x :: st))) := by
  subst hp; exact Ends.of (fun _ q => XS.iadd X.here hx rfl (hb hby hd) rfl q) kt
theorem own_iand (X : Stand p l e R s m args below meth c T locs cells slots) (hx : p.tables.exec = Jvm.exec) (hby : c.code = bc) {x y : Int32} (hd : decode bc pc = .ok (.iand, 1)) (hp : pc + 1 = pc')
    (kt : Ends p.tables e below Fz (T.setTop (mkF m pc' Ls (.int (x &&& y) :: st)))) : Ends p.tables e below Fz (T.setTop (mkF m pc Ls (.int y :: .int x :: st))) := by
  subst hp; exact Ends.of (fun _ q => XS.iand X.here hx rfl (hb hby hd) rfl q) kt
theorem own_irem (X : Stand p l e R s m args below meth c T locs cells slots) (hx : p.tables.exec = Jvm.exec) (hby : c.code = bc) {x y : Int32} (hd : decode bc pc = .ok (.irem, 1)) (hp : pc + 1 = pc') (hy : y ≠ 0)
    (kt : Ends p.tables e below Fz (T.setTop (mkF m pc' Ls (.int (x % y) :: st)))) : Ends p.tables e below Fz (T.setTop (mkF m pc Ls (.int y :: .int x :: st))) := by
  subst hp; exact Ends.of (fun _ q => iremM X hx rfl (hb hby hd) rfl hy q) kt
theorem own_iinc (X : Stand p l e R s m args below meth c T locs cells slots) (hx : p.tables.exec = Jvm.exec) (hby : c.code = bc) {k : Nat} {i : Int} {x : Int32} (hd : decode bc pc = .ok (.iinc k i, 3)) (hp : pc + 3 = pc') (v : Int32) (hv : Int32.ofInt i = v) (Ls' : Array Slot) (hl : Ls[k]? = some (.val (.int x))) (hl' : storeLocals Ls k (.int (x + v)) = some Ls')
    (kt : Ends p.tables e below Fz (T.setTop (mkF m pc' Ls' st))) : Ends p.tables e below Fz (T.setTop (mkF m pc Ls st)) := by
  subst hp; exact Ends.of (fun _ q => by subst hv; exact XS.iinc X.here hx rfl (hb hby hd) hl hl' q) kt
theorem own_goto (X : Stand p l e R s m args below meth c T locs cells slots) (hx : p.tables.exec = Jvm.exec) (hby : c.code = bc) {o : Int} (hd : decode bc pc = .ok (.goto o, 3)) (hp : (pc : Int) + o = (pc' : Int)) (kt : Ends p.tables e below Fz (T.setTop (mkF m pc' Ls st))) : Ends p.tables e below Fz (T.setTop (mkF m pc Ls st)) :=
  Ends.of (fun _ q => XS.goto X.here hx rfl (pc0 := pc) (pc' := pc') rfl (hb hby hd) (by rw [hp]; exact Int.natCast_nonneg _) (by rw [hp]; rfl) q) kt
theorem own_icmp_ne (X : Stand p l e R s m args below meth c T locs cells slots) (hx : p.tables.exec = Jvm.exec) (hby : c.code = bc) {x y : Int32} {o : Int} {pcY pcN : Nat} (hd : decode bc pc = .ok (.if_icmp .ne o, 3)) (hpY : (pc : Int) + o = (pcY : Int)) (hpN : pc + 3 = pcN) (kY : ¬ x = y → Ends p.tables e below Fz (T.setTop (mkF m pcY Ls st))) (kN : x = y → Ends p.tables e below Fz (T.setTop (mkF m pcN Ls st))) : Ends p.tables e below Fz (T.setTop (mkF m pc Ls (.int y :: .int x :: st))) := by
  subst hpN; by_cases h : x = y
  · exact Ends.of (fun _ q => XS.icmpNo X.here hx rfl (hb hby hd) rfl (Jvm.Free.XT.ii_ne_f h) q) (kN h)
  · exact Ends.of (fun _ q => XS.icmpYes X.here hx rfl (pc0 := pc) (pc' := pcY) rfl (hb hby hd) rfl (Jvm.Free.XT.ii_ne_t h) (by rw [hpY]; exact Int.natCast_nonneg _) (by rw [hpY]; rfl) q) (kY h)
theorem own_icmp_ge (X : Stand p l e R s m args below meth c T locs cells slots) (hx : p.tables.exec = Jvm.exec) (hby : c.code = bc) {x y : Int32} {o : Int} {pcY pcN : Nat} (hd : decode bc pc = .ok (.if_icmp .ge o, 3)) (hpY : (pc : Int) + o = (pcY : Int)) (hpN : pc + 3 = pcN) (kY : y.toInt ≤ x.toInt → Ends p.tables e below Fz (T.setTop (mkF m pcY Ls st))) (kN : x.toInt < y.toInt → Ends p.tables e below Fz (T.setTop (mkF m pcN Ls st))) : Ends p.tables e below Fz (T.setTop (mkF m pc Ls (.int y :: .int x :: st))) := by
  subst hpN; by_cases h : x < y
  · exact Ends.of (fun _ q => XS.icmpNo X.here hx rfl (hb hby hd) rfl (Jvm.Free.XT.ii_ge_f h) q) (kN (Int32.lt_iff_toInt_lt.mp h))
  · exact Ends.of (fun _ q => XS.icmpYes X.here hx rfl (pc0 := pc) (pc' := pcY) rfl (hb hby hd) rfl (Jvm.Free.XT.ii_ge_t h) (by rw [hpY]; exact Int.natCast_nonneg _) (by rw [hpY]; rfl) q) (kY (Int.not_lt.mp fun q => h (Int32.lt_iff_toInt_lt.mpr q)))
theorem own_ifnullNo (X : Stand p l e R s m args below meth c T locs cells slots) (hx : p.tables.exec = Jvm.exec) (hby : c.code = bc) {b : Addr} {o : Int} (hd : decode bc pc = .ok (.ifnull o, 3)) (hp : pc + 3 = pc') (kt : Ends p.tables e below Fz (T.setTop (mkF m pc' Ls st))) : Ends p.tables e below Fz (T.setTop (mkF m pc Ls (.ref b :: st))) := by
  subst hp; exact Ends.of (fun _ q => XS.ifnullNo X.here hx rfl (hb hby hd) rfl q) kt
theorem own_ret (X : Stand p l e R s m args below meth c T locs cells slots) (hx : p.tables.exec = Jvm.exec) (hby : c.code = bc) {v : Value} {t : FieldType} {i : Instr} (hret : meth.sig.returnType = some t) (hk : meth.locks = false) (hd : decode bc pc = .ok (i, 1)) (v' : Value) (hn : narrow t v = v')
    (hi : (i = .ireturn ∧ (t = .int ∨ t = .boolean ∨ t = .byte ∨ t = .char ∨ t = .short) ∧ ∃ z, v = .int z) ∨ (i = .lreturn ∧ t = .long ∧ ∃ z, v = .long z) ∨ (i = .areturn ∧ t.isReference = true ∧ v.isRef = true))
    (hC : cells ≤ C) (hS : slots ≤ S) (q : Q (some v') T.heap locs) : Ends p.tables e below (OwnFin s Q C S) (T.setTop (mkF m pc Ls (v :: st))) := by
  obtain ⟨fs, hr, hrun, hended, hW, hsame⟩ := X.leave (v := some v') (fun h => by rw [hret] at h; cases h) hk
  refine ⟨_, _, ?_, hrun, hended, _, _, rfl, q, ⟨_, rfl⟩, hW, hsame.mono hC hS⟩
  have hm' : T.vm.method? m = some meth := X.method'
  show Steps p.tables e below (T.setTop { method := m, pc := pc, locals := Ls, stack := v :: st, locked := none }) _
  have hd' := hb hby hd
  rcases hi with ⟨rfl, ht, z, rfl⟩ | ⟨rfl, rfl, z, rfl⟩ | ⟨rfl, ht, hv⟩
  · rcases ht with rfl | rfl | rfl | rfl | rfl <;> (jvm_step X.here [X.here.top, hx, hd', hm', hret, hn]; first | (intro acts; rw [hr _ acts rfl rfl rfl]) | rw [hr _ _ rfl rfl rfl]) <;> exact Steps.refl _
  · have hn2 : Value.long z = v' := hn
    subst hn2
    jvm_step X.here [X.here.top, hx, hd', hm', hret, hn]
    first | (intro acts; rw [hr _ acts rfl rfl rfl]) | rw [hr _ _ rfl rfl rfl]
    exact Steps.refl _
  · have hn2 : v = v' := by rw [← hn]; rcases ref_cases hv with rfl | ⟨z, rfl⟩ <;> cases t <;> rfl
    subst hn2
    jvm_step X.here [X.here.top, hx, hd', hm', hret, hn, ht, hv]
    first | (intro acts; rw [hr _ acts rfl rfl rfl]) | rw [hr _ _ rfl rfl rfl]
    exact Steps.refl _
end Own
section OwnH
variable {p : Program} {l : Launch} {e : Env} {R : Room} {s : State} {m : MethodId} {args : Array Value} {below : List Frame} {meth : Method} {c : Code} {T : State} {locs : List Loc} {cells slots : Nat}
variable {Fz : Outcome → State → Prop} {bc : ByteArray} {pc pc' : Nat} {Ls Ls' : Array Slot} {st : List Value}
variable {Z : State} {a0 : Array Value} {h h0 : Heap} {n0 : Nat}
abbrev OwnMet (l : Launch) (Z : State) (y : MethodName) (bytes : ByteArray) (maxL : Nat) (rt : Option FieldType) (ws : List Jvm.Cond) (rm : Room) (as' : Array Value) (h0 : Heap) (Qc : Option Value → Heap → List Loc → Prop) : Prop :=
  MetFree l y (head1 (Jvm.Cond.code y bytes maxL rt :: ws) rm) (fun a U => a = as' ∧ Z.Warmed39 U.vm ∧ U.heap = h0) (fun _ _ _ _ _ => True) (fun _ U o U' => ∃ v L, o = .returned v ∧ Qc v U'.heap L ∧ FrameEnd U o U' L rm.cells rm.slots)
theorem own_body {y : MethodName} {bytes : ByteArray} {maxL : Nat} {rt : Option FieldType} {ws : List Jvm.Cond} {rm : Room} {as' : Array Value} {Qc : Option Value → Heap → List Loc → Prop} {Ls0 : Array Slot} (hpl : plainFor y = true) (hef : ∀ m : MethodId, entryFrame m as' maxL = mkF m 0 Ls0 [])
    (body : ∀ (p : Program) (e : Env) (s : State) (m : MethodId) (below : List Frame) (meth : Method) (c : Code) (s₁ : State), Stand p l e rm s m as' below meth c s₁ [] 0 0 → p.tables.exec = Jvm.exec → c.code = bytes → c.maxLocals = maxL → s.vm.findClass y.cls = some m.cls → meth.name = y.name → meth.sig.returnType = rt → meth.locks = false → Z.Warmed39 s.vm → s₁.heap = h0 → Ends p.tables e below (OwnFin s Qc rm.cells rm.slots) (s₁.setTop (mkF m 0 Ls0 []))) :
    OwnMet l Z y bytes maxL rt ws rm as' h0 Qc := by
  refine MetFree.of_bodySF hpl hisR ?_
  intro p e s m args below meth c s₁ Bd hml0 hP hK
  obtain ⟨rfl, hZ, hh⟩ := hP
  have e0 : s₁.heap = h0 := by rw [← hh, Bd.state]; rfl
  rw [hef]
  exact body p e s m below meth c s₁ (Stand.of_body Bd) Bd.exec Bd.bytes hml0 (findClass_of_methodNamed Bd.named) (name_of_methodNamed Bd.named Bd.method).1 Bd.returns Bd.notSynchronized hZ e0
theorem own_static (X : Stand p l e R s m args below meth c T locs cells slots) (hx : p.tables.exec = Jvm.exec) (hby : c.code = bc) (hZ : Z.Warmed39 s.vm) {own : String} {index : Nat} {y : MethodName} {bytes : ByteArray} {maxL : Nat} {rt r : Option FieldType} {ps : List FieldType} {rm : Room} {argsL rest : List Value} {Qc : Option Value → Heap → List Loc → Prop} {W : Nat}
    (hown : s.vm.findClass own = some m.cls) (w1 : (Jvm.Cond.methodLink own index y).before a0 Z = true) (w2 : (Jvm.Cond.static y).before a0 Z = true) (w3 : (Jvm.Cond.initialized y.cls).before a0 Z = true) (w4 : (Jvm.Cond.code y bytes maxL rt).before a0 Z = true) (hy : y.cls ≠ "java/lang/invoke/MethodHandle" ∧ y.cls ≠ "java/lang/invoke/VarHandle")
    (hM : OwnMet l Z y bytes maxL rt [] rm argsL.toArray h Qc) (eT : T.heap = h) (hml : Ls.size = c.maxLocals) (hlen : parseMethodDescriptor y.desc = some ⟨ps, r⟩) (hl : argsL.length = ps.length) (hf : rm.frames + 1 ≤ R.frames) (hW : (rest.map fun v => v.category).sum ≤ W) (hlo : W + (maxL + 11) + rm.locals ≤ R.locals) (hc : cells + rm.cells ≤ R.cells) (hs : slots + rm.slots ≤ R.slots)
    (hd : decode bc pc = .ok (.invokestatic index, 3)) (hp : pc + 3 = pc') (hst : st = argsL.reverse ++ rest)
    (kt : ∀ v T' L, Stand p l e R s m args below meth c T' (locs ++ L) (cells + rm.cells) (slots + rm.slots) → Qc v T'.heap L → Ends p.tables e below Fz (T'.setTop (mkF m pc' Ls (v.toList ++ rest)))) : Ends p.tables e below Fz (T.setTop (mkF m pc Ls st)) := by
  subst hp hst
  obtain ⟨v, vm₁, ⟨T', L', k', n'⟩, -, X', ⟨Lc, hQ, l', y', z'⟩, st⟩ := Jvm.LawKit.callS X hx (y := y) hown (mvT hZ w1) (mvT hZ w2) (mvT hZ w3) (mvT hZ w4) hy (backOf (W := W) hM hZ w4 w3 hf hlo) (g := mkF m pc Ls (argsL.reverse ++ rest)) rfl hml (argsL := argsL) (rest := rest) (lenOf hlen hl) rfl (by show 2 * 0 + _ ≤ _; omega) (hb hby hd) (fun _ _ => ⟨rfl, eT, hc, hs⟩)
  dsimp only [Pt.U, Pt.locs, Pt.cells, Pt.slots] at X' l' y' z' st hQ
  subst l' y' z'
  exact Ends.of st (kt v T' Lc X' hQ)
theorem own_virtual (X : Stand p l e R s m args below meth c T locs cells slots) (hx : p.tables.exec = Jvm.exec) (hby : c.code = bc) (hZ : Z.Warmed39 s.vm) {own Cn : String} {index : Nat} {y : MethodName} {bytes : ByteArray} {maxL : Nat} {rt r : Option FieldType} {ps : List FieldType} {rm : Room} {a : Addr} {argsL rest : List Value} {Qc : Option Value → Heap → List Loc → Prop} {W : Nat}
    (hown : s.vm.findClass own = some m.cls) (w1 : (Jvm.Cond.methodLink own index y).before a0 Z = true) (wd : (Jvm.Cond.declares y).before a0 Z = true) (ws : (Jvm.Cond.selects Cn y y).before a0 Z = true) (w2 : (Jvm.Cond.instanceMethod y).before a0 Z = true) (w3 : (Jvm.Cond.initialized y.cls).before a0 Z = true) (w4 : (Jvm.Cond.code y bytes maxL rt).before a0 Z = true) (hy : y.cls ≠ "java/lang/invoke/MethodHandle" ∧ y.cls ≠ "java/lang/invoke/VarHandle")
    (hM : OwnMet l Z y bytes maxL rt [] rm (Value.ref a :: argsL).toArray h Qc) (E : Exa Z h a Cn) (eT : T.heap = h) (hml : Ls.size = c.maxLocals) (hlen : parseMethodDescriptor y.desc = some ⟨ps, r⟩) (hl : argsL.length = ps.length) (hf : rm.frames + 1 ≤ R.frames) (hW : (rest.map fun v => v.category).sum ≤ W) (hlo : W + (maxL + 11) + rm.locals ≤ R.locals) (hc : cells + rm.cells ≤ R.cells) (hs : slots + rm.slots ≤ R.slots)
    (hd : decode bc pc = .ok (.invokevirtual index, 3)) (hp : pc + 3 = pc') (hst : st = argsL.reverse ++ Value.ref a :: rest)
    (kt : ∀ v T' L, Stand p l e R s m args below meth c T' (locs ++ L) (cells + rm.cells) (slots + rm.slots) → Qc v T'.heap L → Ends p.tables e below Fz (T'.setTop (mkF m pc' Ls (v.toList ++ rest)))) : Ends p.tables e below Fz (T.setTop (mkF m pc Ls st)) := by
  subst hp hst
  obtain ⟨cq, kq, qa, qb, qc⟩ := isOf hZ eT E
  obtain ⟨v, vm₁, ⟨T', L', k', n'⟩, -, X', ⟨Lc, hQ, l', y', z'⟩, st⟩ := X.virtualBack hx (y := y) (z := y) hown (mvT hZ w1) (mvT hZ wd) (notFace_of_selects (args := #[]) (mvT hZ ws)) (mvT hZ ws) (mvT hZ w2) hy (backOf (W := W) hM hZ w4 w3 hf hlo) qa qc (g := mkF m pc Ls (argsL.reverse ++ Value.ref a :: rest)) rfl hml (Steps.refl _) (argsL := argsL) (rest := rest) (lenOf hlen hl) rfl (by show 2 * 0 + _ ≤ _; omega) (hb hby hd) (fun _ _ => ⟨rfl, eT, hc, hs⟩)
  dsimp only [Pt.U, Pt.locs, Pt.cells, Pt.slots] at X' l' y' z' st hQ
  subst l' y' z'
  exact Ends.tr st (kt v T' Lc X' hQ)
theorem own_getfield (X : Stand p l e R s m args below meth c T locs cells slots) (hx : p.tables.exec = Jvm.exec) (hby : c.code = bc) (hZ : Z.Warmed39 s.vm) {own R0 O n d host : String} {index : Nat} {a : Addr} {v : Value}
    (hown : s.vm.findClass own = some m.cls) (w : (Jvm.Cond.fieldLink own index R0 n d).before a0 Z = true ∨ (Jvm.Cond.fieldLinkNest own index R0 n d host).before a0 Z = true) (via : Via Z R0 O n d) (eT : T.heap = h) (F : Fld Z h a O n d v)
    (hd : decode bc pc = .ok (.getfield index, 3)) (hp : pc + 3 = pc')
    (kt : ∀ T', Stand p l e R s m args below meth c T' locs cells slots → T'.heap = h → Ends p.tables e below Fz (T'.setTop (mkF m pc' Ls (v :: st)))) : Ends p.tables e below Fz (T.setTop (mkF m pc Ls (.ref a :: st))) := by
  subst hp
  obtain ⟨T', X', e', st⟩ := getF X hx hZ hown w via eT F (g := mkF m pc Ls (.ref a :: st)) rfl rfl (hb hby hd)
  exact Ends.of st (kt T' X' e')
theorem own_getstatic (X : Stand p l e R s m args below meth c T locs cells slots) (hx : p.tables.exec = Jvm.exec) (hby : c.code = bc) (hZ : Z.Warmed39 s.vm) {own R0 O n d host : String} {index : Nat} {v : Value}
    (hown : s.vm.findClass own = some m.cls) (w : (Jvm.Cond.fieldLink own index R0 n d).before a0 Z = true ∨ (Jvm.Cond.fieldLinkNest own index R0 n d host).before a0 Z = true) (via : Via Z R0 O n d) (eT : T.heap = h) (F : Sta Z h O n d v)
    (hd : decode bc pc = .ok (.getstatic index, 3)) (hp : pc + 3 = pc')
    (kt : ∀ T', Stand p l e R s m args below meth c T' locs cells slots → T'.heap = h → Ends p.tables e below Fz (T'.setTop (mkF m pc' Ls (v :: st)))) : Ends p.tables e below Fz (T.setTop (mkF m pc Ls st)) := by
  subst hp
  obtain ⟨T', X', e', st⟩ := getS2 X hx hZ hown w via eT F (g := mkF m pc Ls st) rfl (hb hby hd)
  exact Ends.of st (kt T' X' e')
theorem own_arraylength (X : Stand p l e R s m args below meth c T locs cells slots) (hx : p.tables.exec = Jvm.exec) (hby : c.code = bc) (hZ : Z.Warmed39 s.vm) {ty : FieldType} {a : Addr} {k : ClassId} {n : Int32} {vs : List Value} {dv : Value}
    (eT : T.heap = h) (V : Arv Z h a k ty n vs dv) (hd : decode bc pc = .ok (.arraylength, 1)) (hp : pc + 1 = pc')
    (kt : Ends p.tables e below Fz (T.setTop (mkF m pc' Ls (.int n :: st)))) : Ends p.tables e below Fz (T.setTop (mkF m pc Ls (.ref a :: st))) := by
  subst hp
  obtain ⟨cl, A, -, Sz, Nn, -, -⟩ := V
  exact Ends.of (fun _ q => X.arraylength hx (by rw [eT]; exact A.1) (State.isArrayOf_alike hZ.alike A.2.1) (g := mkF m pc Ls (.ref a :: st)) rfl rfl (hb hby hd) _ (by rw [len_of Sz Nn]; exact q)) kt
theorem own_aaload (X : Stand p l e R s m args below meth c T locs cells slots) (hx : p.tables.exec = Jvm.exec) (hby : c.code = bc) (hZ : Z.Warmed39 s.vm) {ty : FieldType} {a : Addr} {k : ClassId} {n j : Int32} {vs : List Value} {dv : Value} (v : Value)
    (hr : ty.isReference = true) (eT : T.heap = h) (V : Arv Z h a k ty n vs dv) (hj : ¬ j < 0 ∧ j < n) (hv : vs.getD j.toNatClampNeg dv = v) (hd : decode bc pc = .ok (.aaload, 1)) (hp : pc + 1 = pc')
    (kt : Ends p.tables e below Fz (T.setTop (mkF m pc' Ls (v :: st)))) : Ends p.tables e below Fz (T.setTop (mkF m pc Ls (.int j :: .ref a :: st))) := by
  subst hp
  obtain ⟨cl, A, -, Sz, Nn, H, -⟩ := V
  exact Ends.of (fun _ q => X.aaload hx (j := j) (v := v) (by rw [eT]; exact A.1) (State.isArrayOf_alike hZ.alike A.2.1) hr A.2.2 (inb_of Sz hj) (H.at (inb_of Sz hj) hv) (g := mkF m pc Ls (.int j :: .ref a :: st)) rfl rfl (hb hby hd) _ q) kt
theorem own_checkcast (X : Stand p l e R s m args below meth c T locs cells slots) (hx : p.tables.exec = Jvm.exec) (hby : c.code = bc) (hZ : Z.Warmed39 s.vm) {own K : String} {index : Nat} {a : Addr}
    (hown : s.vm.findClass own = some m.cls) (w : (Jvm.Cond.classLink own index K).before a0 Z = true) (eT : T.heap = h) (F : Ins Z h a K true) (hd : decode bc pc = .ok (.checkcast index, 3)) (hp : pc + 3 = pc')
    (kt : ∀ T', Stand p l e R s m args below meth c T' locs cells slots → T'.heap = h → Ends p.tables e below Fz (T'.setTop (mkF m pc' Ls (.ref a :: st)))) : Ends p.tables e below Fz (T.setTop (mkF m pc Ls (.ref a :: st))) := by
  subst hp
  obtain ⟨T', X', e', st⟩ := castY X hx hZ hown w eT F (g := mkF m pc Ls (.ref a :: st)) rfl rfl (hb hby hd)
  exact Ends.of st (kt T' X' e')
theorem own_ldcI (X : Stand p l e R s m args below meth c T locs cells slots) (hx : p.tables.exec = Jvm.exec) (hby : c.code = bc) (hZ : Z.Warmed39 s.vm) {own : String} {index : Nat} {v : Int32}
    (hown : s.vm.findClass own = some m.cls) (w : (Jvm.Cond.constant own index v).before a0 Z = true) (hd : decode bc pc = .ok (.ldc index, 2)) (hp : pc + 2 = pc')
    (kt : Ends p.tables e below Fz (T.setTop (mkF m pc' Ls (.int v :: st)))) : Ends p.tables e below Fz (T.setTop (mkF m pc Ls st)) := by
  subst hp; exact Ends.of (X.ldcInt hx hown (mvT hZ w) (g := mkF m pc Ls st) rfl (hb hby hd)) kt
theorem own_clone (X : Stand p l e R s m args below meth c T locs cells slots) (hx : p.tables.exec = Jvm.exec) (hby : c.code = bc) (hZ : Z.Warmed39 s.vm) {own ad : String} {index : Nat} {ty : FieldType} {a : Addr} {k : ClassId} {n : Int32} {vs : List Value} {dv : Value}
    (hown : s.vm.findClass own = some m.cls) (w1 : (Jvm.Cond.methodLink own index ⟨ad, "clone", "()Ljava/lang/Object;"⟩).before a0 Z = true) (w2 : (Jvm.Cond.sameMethod ad "java/lang/Object" "clone" "()Ljava/lang/Object;").before a0 Z = true) (w3 : (Jvm.Cond.native ⟨"java/lang/Object", "clone", "()Ljava/lang/Object;"⟩).before a0 Z = true)
    (w4 : (Jvm.Cond.instanceMethod ⟨"java/lang/Object", "clone", "()Ljava/lang/Object;"⟩).before a0 Z = true) (w5 : (Jvm.Cond.selects ad ⟨ad, "clone", "()Ljava/lang/Object;"⟩ ⟨"java/lang/Object", "clone", "()Ljava/lang/Object;"⟩).before a0 Z = true) (w6 : (Jvm.Cond.castable ad "java/lang/Cloneable").before a0 Z = true)
    (eT : T.heap = h) (V : Arv Z h a k ty n vs dv) (E : Exa Z h a ad) (hml : Ls.size = c.maxLocals) (hf : 1 ≤ R.frames) {W : Nat} (cap : Nat) (hW : (st.map fun v => v.category).sum ≤ W) (hlo : W + 14 ≤ R.locals) (hcap : n.toNatClampNeg ≤ cap) (hc : cells + 1 ≤ R.cells) (hl : slots + cap ≤ R.slots)
    (hd : decode bc pc = .ok (.invokevirtual index, 3)) (hp : pc + 3 = pc')
    (kt : ∀ T' h' b, Stand p l e R s m args below meth c T' locs (cells + 1) (slots + cap) → T'.heap = h' → b = h.size → Ext h h' → Arv Z h' b k ty n vs dv → Exa Z h' b ad → Ends p.tables e below Fz (T'.setTop (mkF m pc' Ls (.ref b :: st)))) : Ends p.tables e below Fz (T.setTop (mkF m pc Ls (.ref a :: st))) := by
  subst hp
  obtain ⟨T', h', X', e', ex, V', E', st⟩ := cloneH X hx hZ hown w1 w2 w3 w4 w5 w6 eT V.arh E (g := mkF m pc Ls (.ref a :: st)) rfl hml rfl (hb hby hd) hf (W := W) (by show 2 * 0 + _ ≤ _; omega) hlo hcap hc hl
  exact Ends.of st (kt T' h' _ X' e' rfl ex V' E')
theorem own_ext {h1 h2 h3 : Heap} (E : Ext h1 h2) (E' : Ext h2 h3) : Ext h1 h3 := ⟨Nat.le_trans E.1 E'.1, fun x c q => E'.2 x c (E.2 x c q)⟩
theorem own_lt {x b : Addr} (hx : x < h.size) (g : b = h.size) : x ≠ b := by rw [g]; exact Nat.ne_of_lt hx
theorem own_eqR {args : Array Value} {X F : Term} {a : Addr} (hF : F.eval args Z none [] Z = some (.ref a)) (h : (Jvm.Cond.eq X F).value args Z none Z [] = some true) : X.eval args Z none [] Z = some (.ref a) := Jvm.Cond.eq_refs (Jvm.Cond.before_iff.mpr h) hF rfl
theorem own_enumArr {args : Array Value} {t : Term} {a : Addr} {ty : FieldType} {z : Int32} {vs : List Value} (hf : Fit Z) (ev : t.eval args Z none [] Z = some (.ref a)) (hA : (Jvm.Cond.arrayOf t ty).value args Z none Z [] = some true) (hL : (Jvm.Cond.eq (.length t) (.int z)).value args Z none Z [] = some true) (hz : ¬ z < 0) (hl : z.toNatClampNeg = vs.length) (H : ∀ cl, Z.heap[a]? = some cl → HasL cl 0 vs) : ∃ k, Arv Z Z.heap a k ty z vs .null := by
  obtain ⟨cl, A⟩ := Arr.start ev hA
  have e1 := eqv_i (Term.int_eval z) hL
  have ha : Z.arrayAt? a = some cl := Arr.fin (Vm.Alike.refl _) A
  have e2 : cl.slots.size < 2 ^ 31 ∧ cl.slots.size.toInt32 = z := by
    by_cases q : cl.slots.size < 2 ^ 31
    · rw [len_f ev ha q] at e1
      exact ⟨q, Value.int.inj (Option.some.inj e1)⟩
    · simp [Term.eval, ev, ha, q] at e1
  exact ⟨_, Arv.start hf A e2.1 e2.2 hz hl (H cl A.1)⟩
end OwnH

def OwnG (Z : State) (a__VALUES a_NO_SUCH_NODE a_NO_SUCH_CELL a_NODE_DELETED a_INVALID_NAME a_EXISTS a_NOT_EMPTY a_NOT_A_FILE a_NOT_A_DIRECTORY a_GENERATION_MISMATCH a_TOO_LARGE a_ROOT_NOT_DELETABLE a_INVALID_HANDLE a_BAD_REQUEST a_UNAVAILABLE a_LOCK_HELD a_LOCK_NOT_HELD a_NOT_OPENED_FOR_USE a_SESSION_EXPIRED a_NO_MASTER a_WRONG_EPOCH a_INVALID_SEQUENCER a_POISONED a_WITHDRAWN a_MEMBERSHIP_REFUSED a_PERMISSION_DENIED : Addr) : Prop := (Sta Z Z.heap "com/example/portunus/portunus/model/ErrorCode" "$VALUES" "[Lcom/example/portunus/portunus/model/ErrorCode;" (.ref a__VALUES)) ∧ (Exa Z Z.heap a__VALUES "[Lcom/example/portunus/portunus/model/ErrorCode;") ∧ (Sta Z Z.heap "com/example/portunus/portunus/model/ErrorCode" "NO_SUCH_NODE" "Lcom/example/portunus/portunus/model/ErrorCode;" (.ref a_NO_SUCH_NODE)) ∧ (Exa Z Z.heap a_NO_SUCH_NODE "com/example/portunus/portunus/model/ErrorCode") ∧ (Sta Z Z.heap "com/example/portunus/portunus/model/ErrorCode" "NO_SUCH_CELL" "Lcom/example/portunus/portunus/model/ErrorCode;" (.ref a_NO_SUCH_CELL)) ∧ (Exa Z Z.heap a_NO_SUCH_CELL "com/example/portunus/portunus/model/ErrorCode") ∧ (Sta Z Z.heap "com/example/portunus/portunus/model/ErrorCode" "NODE_DELETED" "Lcom/example/portunus/portunus/model/ErrorCode;" (.ref a_NODE_DELETED)) ∧ (Exa Z Z.heap a_NODE_DELETED "com/example/portunus/portunus/model/ErrorCode") ∧ (Sta Z Z.heap "com/example/portunus/portunus/model/ErrorCode" "INVALID_NAME" "Lcom/example/portunus/portunus/model/ErrorCode;" (.ref a_INVALID_NAME)) ∧ (Exa Z Z.heap a_INVALID_NAME "com/example/portunus/portunus/model/ErrorCode") ∧ (Sta Z Z.heap "com/example/portunus/portunus/model/ErrorCode" "EXISTS" "Lcom/example/portunus/portunus/model/ErrorCode;" (.ref a_EXISTS)) ∧ (Exa Z Z.heap a_EXISTS "com/example/portunus/portunus/model/ErrorCode") ∧ (Sta Z Z.heap "com/example/portunus/portunus/model/ErrorCode" "NOT_EMPTY" "Lcom/example/portunus/portunus/model/ErrorCode;" (.ref a_NOT_EMPTY)) ∧ (Exa Z Z.heap a_NOT_EMPTY "com/example/portunus/portunus/model/ErrorCode") ∧ (Sta Z Z.heap "com/example/portunus/portunus/model/ErrorCode" "NOT_A_FILE" "Lcom/example/portunus/portunus/model/ErrorCode;" (.ref a_NOT_A_FILE)) ∧ (Exa Z Z.heap a_NOT_A_FILE "com/example/portunus/portunus/model/ErrorCode") ∧ (Sta Z Z.heap "com/example/portunus/portunus/model/ErrorCode" "NOT_A_DIRECTORY" "Lcom/example/portunus/portunus/model/ErrorCode;" (.ref a_NOT_A_DIRECTORY)) ∧ (Exa Z Z.heap a_NOT_A_DIRECTORY "com/example/portunus/portunus/model/ErrorCode") ∧ (Sta Z Z.heap "com/example/portunus/portunus/model/ErrorCode" "GENERATION_MISMATCH" "Lcom/example/portunus/portunus/model/ErrorCode;" (.ref a_GENERATION_MISMATCH)) ∧ (Exa Z Z.heap a_GENERATION_MISMATCH "com/example/portunus/portunus/model/ErrorCode") ∧ (Sta Z Z.heap "com/example/portunus/portunus/model/ErrorCode" "TOO_LARGE" "Lcom/example/portunus/portunus/model/ErrorCode;" (.ref a_TOO_LARGE)) ∧ (Exa Z Z.heap a_TOO_LARGE "com/example/portunus/portunus/model/ErrorCode") ∧ (Sta Z Z.heap "com/example/portunus/portunus/model/ErrorCode" "ROOT_NOT_DELETABLE" "Lcom/example/portunus/portunus/model/ErrorCode;" (.ref a_ROOT_NOT_DELETABLE)) ∧ (Exa Z Z.heap a_ROOT_NOT_DELETABLE "com/example/portunus/portunus/model/ErrorCode") ∧ (Sta Z Z.heap "com/example/portunus/portunus/model/ErrorCode" "INVALID_HANDLE" "Lcom/example/portunus/portunus/model/ErrorCode;" (.ref a_INVALID_HANDLE)) ∧ (Exa Z Z.heap a_INVALID_HANDLE "com/example/portunus/portunus/model/ErrorCode") ∧ (Sta Z Z.heap "com/example/portunus/portunus/model/ErrorCode" "BAD_REQUEST" "Lcom/example/portunus/portunus/model/ErrorCode;" (.ref a_BAD_REQUEST)) ∧ (Exa Z Z.heap a_BAD_REQUEST "com/example/portunus/portunus/model/ErrorCode") ∧ (Sta Z Z.heap "com/example/portunus/portunus/model/ErrorCode" "UNAVAILABLE" "Lcom/example/portunus/portunus/model/ErrorCode;" (.ref a_UNAVAILABLE)) ∧ (Exa Z Z.heap a_UNAVAILABLE "com/example/portunus/portunus/model/ErrorCode") ∧ (Sta Z Z.heap "com/example/portunus/portunus/model/ErrorCode" "LOCK_HELD" "Lcom/example/portunus/portunus/model/ErrorCode;" (.ref a_LOCK_HELD)) ∧ (Exa Z Z.heap a_LOCK_HELD "com/example/portunus/portunus/model/ErrorCode") ∧ (Sta Z Z.heap "com/example/portunus/portunus/model/ErrorCode" "LOCK_NOT_HELD" "Lcom/example/portunus/portunus/model/ErrorCode;" (.ref a_LOCK_NOT_HELD)) ∧ (Exa Z Z.heap a_LOCK_NOT_HELD "com/example/portunus/portunus/model/ErrorCode") ∧ (Sta Z Z.heap "com/example/portunus/portunus/model/ErrorCode" "NOT_OPENED_FOR_USE" "Lcom/example/portunus/portunus/model/ErrorCode;" (.ref a_NOT_OPENED_FOR_USE)) ∧ (Exa Z Z.heap a_NOT_OPENED_FOR_USE "com/example/portunus/portunus/model/ErrorCode") ∧ (Sta Z Z.heap "com/example/portunus/portunus/model/ErrorCode" "SESSION_EXPIRED" "Lcom/example/portunus/portunus/model/ErrorCode;" (.ref a_SESSION_EXPIRED)) ∧ (Exa Z Z.heap a_SESSION_EXPIRED "com/example/portunus/portunus/model/ErrorCode") ∧ (Sta Z Z.heap "com/example/portunus/portunus/model/ErrorCode" "NO_MASTER" "Lcom/example/portunus/portunus/model/ErrorCode;" (.ref a_NO_MASTER)) ∧ (Exa Z Z.heap a_NO_MASTER "com/example/portunus/portunus/model/ErrorCode") ∧ (Sta Z Z.heap "com/example/portunus/portunus/model/ErrorCode" "WRONG_EPOCH" "Lcom/example/portunus/portunus/model/ErrorCode;" (.ref a_WRONG_EPOCH)) ∧ (Exa Z Z.heap a_WRONG_EPOCH "com/example/portunus/portunus/model/ErrorCode") ∧ (Sta Z Z.heap "com/example/portunus/portunus/model/ErrorCode" "INVALID_SEQUENCER" "Lcom/example/portunus/portunus/model/ErrorCode;" (.ref a_INVALID_SEQUENCER)) ∧ (Exa Z Z.heap a_INVALID_SEQUENCER "com/example/portunus/portunus/model/ErrorCode") ∧ (Sta Z Z.heap "com/example/portunus/portunus/model/ErrorCode" "POISONED" "Lcom/example/portunus/portunus/model/ErrorCode;" (.ref a_POISONED)) ∧ (Exa Z Z.heap a_POISONED "com/example/portunus/portunus/model/ErrorCode") ∧ (Sta Z Z.heap "com/example/portunus/portunus/model/ErrorCode" "WITHDRAWN" "Lcom/example/portunus/portunus/model/ErrorCode;" (.ref a_WITHDRAWN)) ∧ (Exa Z Z.heap a_WITHDRAWN "com/example/portunus/portunus/model/ErrorCode") ∧ (Sta Z Z.heap "com/example/portunus/portunus/model/ErrorCode" "MEMBERSHIP_REFUSED" "Lcom/example/portunus/portunus/model/ErrorCode;" (.ref a_MEMBERSHIP_REFUSED)) ∧ (Exa Z Z.heap a_MEMBERSHIP_REFUSED "com/example/portunus/portunus/model/ErrorCode") ∧ (Sta Z Z.heap "com/example/portunus/portunus/model/ErrorCode" "PERMISSION_DENIED" "Lcom/example/portunus/portunus/model/ErrorCode;" (.ref a_PERMISSION_DENIED)) ∧ (Exa Z Z.heap a_PERMISSION_DENIED "com/example/portunus/portunus/model/ErrorCode") ∧ (Fld Z Z.heap a_NO_SUCH_NODE "com/example/portunus/portunus/model/ErrorCode" "code" "I" (.int (1 : Int32))) ∧ (Fld Z Z.heap a_NO_SUCH_CELL "com/example/portunus/portunus/model/ErrorCode" "code" "I" (.int (2 : Int32))) ∧ (Fld Z Z.heap a_NODE_DELETED "com/example/portunus/portunus/model/ErrorCode" "code" "I" (.int (3 : Int32))) ∧ (Fld Z Z.heap a_INVALID_NAME "com/example/portunus/portunus/model/ErrorCode" "code" "I" (.int (4 : Int32))) ∧ (Fld Z Z.heap a_EXISTS "com/example/portunus/portunus/model/ErrorCode" "code" "I" (.int (5 : Int32))) ∧ (Fld Z Z.heap a_NOT_EMPTY "com/example/portunus/portunus/model/ErrorCode" "code" "I" (.int (6 : Int32))) ∧ (Fld Z Z.heap a_NOT_A_FILE "com/example/portunus/portunus/model/ErrorCode" "code" "I" (.int (7 : Int32))) ∧ (Fld Z Z.heap a_NOT_A_DIRECTORY "com/example/portunus/portunus/model/ErrorCode" "code" "I" (.int (8 : Int32))) ∧ (Fld Z Z.heap a_GENERATION_MISMATCH "com/example/portunus/portunus/model/ErrorCode" "code" "I" (.int (9 : Int32))) ∧ (Fld Z Z.heap a_TOO_LARGE "com/example/portunus/portunus/model/ErrorCode" "code" "I" (.int (10 : Int32))) ∧ (Fld Z Z.heap a_ROOT_NOT_DELETABLE "com/example/portunus/portunus/model/ErrorCode" "code" "I" (.int (11 : Int32))) ∧ (Fld Z Z.heap a_INVALID_HANDLE "com/example/portunus/portunus/model/ErrorCode" "code" "I" (.int (12 : Int32))) ∧ (Fld Z Z.heap a_BAD_REQUEST "com/example/portunus/portunus/model/ErrorCode" "code" "I" (.int (13 : Int32))) ∧ (Fld Z Z.heap a_UNAVAILABLE "com/example/portunus/portunus/model/ErrorCode" "code" "I" (.int (14 : Int32))) ∧ (Fld Z Z.heap a_LOCK_HELD "com/example/portunus/portunus/model/ErrorCode" "code" "I" (.int (15 : Int32))) ∧ (Fld Z Z.heap a_LOCK_NOT_HELD "com/example/portunus/portunus/model/ErrorCode" "code" "I" (.int (16 : Int32))) ∧ (Fld Z Z.heap a_NOT_OPENED_FOR_USE "com/example/portunus/portunus/model/ErrorCode" "code" "I" (.int (17 : Int32))) ∧ (Fld Z Z.heap a_SESSION_EXPIRED "com/example/portunus/portunus/model/ErrorCode" "code" "I" (.int (18 : Int32))) ∧ (Fld Z Z.heap a_NO_MASTER "com/example/portunus/portunus/model/ErrorCode" "code" "I" (.int (19 : Int32))) ∧ (Fld Z Z.heap a_WRONG_EPOCH "com/example/portunus/portunus/model/ErrorCode" "code" "I" (.int (20 : Int32))) ∧ (Fld Z Z.heap a_INVALID_SEQUENCER "com/example/portunus/portunus/model/ErrorCode" "code" "I" (.int (21 : Int32))) ∧ (Fld Z Z.heap a_POISONED "com/example/portunus/portunus/model/ErrorCode" "code" "I" (.int (22 : Int32))) ∧ (Fld Z Z.heap a_WITHDRAWN "com/example/portunus/portunus/model/ErrorCode" "code" "I" (.int (23 : Int32))) ∧ (Fld Z Z.heap a_MEMBERSHIP_REFUSED "com/example/portunus/portunus/model/ErrorCode" "code" "I" (.int (24 : Int32))) ∧ (Fld Z Z.heap a_PERMISSION_DENIED "com/example/portunus/portunus/model/ErrorCode" "code" "I" (.int (25 : Int32))) ∧ (∃ k, Arv Z Z.heap a__VALUES k (Jvm.ClassFile.FieldType.object "com/example/portunus/portunus/model/ErrorCode") (25 : Int32) [(.ref a_NO_SUCH_NODE), (.ref a_NO_SUCH_CELL), (.ref a_NODE_DELETED), (.ref a_INVALID_NAME), (.ref a_EXISTS), (.ref a_NOT_EMPTY), (.ref a_NOT_A_FILE), (.ref a_NOT_A_DIRECTORY), (.ref a_GENERATION_MISMATCH), (.ref a_TOO_LARGE), (.ref a_ROOT_NOT_DELETABLE), (.ref a_INVALID_HANDLE), (.ref a_BAD_REQUEST), (.ref a_UNAVAILABLE), (.ref a_LOCK_HELD), (.ref a_LOCK_NOT_HELD), (.ref a_NOT_OPENED_FOR_USE), (.ref a_SESSION_EXPIRED), (.ref a_NO_MASTER), (.ref a_WRONG_EPOCH), (.ref a_INVALID_SEQUENCER), (.ref a_POISONED), (.ref a_WITHDRAWN), (.ref a_MEMBERSHIP_REFUSED), (.ref a_PERMISSION_DENIED)] .null)
theorem g_S__VALUES {Z : State} {a__VALUES a_NO_SUCH_NODE a_NO_SUCH_CELL a_NODE_DELETED a_INVALID_NAME a_EXISTS a_NOT_EMPTY a_NOT_A_FILE a_NOT_A_DIRECTORY a_GENERATION_MISMATCH a_TOO_LARGE a_ROOT_NOT_DELETABLE a_INVALID_HANDLE a_BAD_REQUEST a_UNAVAILABLE a_LOCK_HELD a_LOCK_NOT_HELD a_NOT_OPENED_FOR_USE a_SESSION_EXPIRED a_NO_MASTER a_WRONG_EPOCH a_INVALID_SEQUENCER a_POISONED a_WITHDRAWN a_MEMBERSHIP_REFUSED a_PERMISSION_DENIED : Addr} (G : OwnG Z a__VALUES a_NO_SUCH_NODE a_NO_SUCH_CELL a_NODE_DELETED a_INVALID_NAME a_EXISTS a_NOT_EMPTY a_NOT_A_FILE a_NOT_A_DIRECTORY a_GENERATION_MISMATCH a_TOO_LARGE a_ROOT_NOT_DELETABLE a_INVALID_HANDLE a_BAD_REQUEST a_UNAVAILABLE a_LOCK_HELD a_LOCK_NOT_HELD a_NOT_OPENED_FOR_USE a_SESSION_EXPIRED a_NO_MASTER a_WRONG_EPOCH a_INVALID_SEQUENCER a_POISONED a_WITHDRAWN a_MEMBERSHIP_REFUSED a_PERMISSION_DENIED) : Sta Z Z.heap "com/example/portunus/portunus/model/ErrorCode" "$VALUES" "[Lcom/example/portunus/portunus/model/ErrorCode;" (.ref a__VALUES) := G.1
theorem g_E__VALUES {Z : State} {a__VALUES a_NO_SUCH_NODE a_NO_SUCH_CELL a_NODE_DELETED a_INVALID_NAME a_EXISTS a_NOT_EMPTY a_NOT_A_FILE a_NOT_A_DIRECTORY a_GENERATION_MISMATCH a_TOO_LARGE a_ROOT_NOT_DELETABLE a_INVALID_HANDLE a_BAD_REQUEST a_UNAVAILABLE a_LOCK_HELD a_LOCK_NOT_HELD a_NOT_OPENED_FOR_USE a_SESSION_EXPIRED a_NO_MASTER a_WRONG_EPOCH a_INVALID_SEQUENCER a_POISONED a_WITHDRAWN a_MEMBERSHIP_REFUSED a_PERMISSION_DENIED : Addr} (G : OwnG Z a__VALUES a_NO_SUCH_NODE a_NO_SUCH_CELL a_NODE_DELETED a_INVALID_NAME a_EXISTS a_NOT_EMPTY a_NOT_A_FILE a_NOT_A_DIRECTORY a_GENERATION_MISMATCH a_TOO_LARGE a_ROOT_NOT_DELETABLE a_INVALID_HANDLE a_BAD_REQUEST a_UNAVAILABLE a_LOCK_HELD a_LOCK_NOT_HELD a_NOT_OPENED_FOR_USE a_SESSION_EXPIRED a_NO_MASTER a_WRONG_EPOCH a_INVALID_SEQUENCER a_POISONED a_WITHDRAWN a_MEMBERSHIP_REFUSED a_PERMISSION_DENIED) : Exa Z Z.heap a__VALUES "[Lcom/example/portunus/portunus/model/ErrorCode;" := G.2.1
theorem g_S_NO_SUCH_NODE {Z : State} {a__VALUES a_NO_SUCH_NODE a_NO_SUCH_CELL a_NODE_DELETED a_INVALID_NAME a_EXISTS a_NOT_EMPTY a_NOT_A_FILE a_NOT_A_DIRECTORY a_GENERATION_MISMATCH a_TOO_LARGE a_ROOT_NOT_DELETABLE a_INVALID_HANDLE a_BAD_REQUEST a_UNAVAILABLE a_LOCK_HELD a_LOCK_NOT_HELD a_NOT_OPENED_FOR_USE a_SESSION_EXPIRED a_NO_MASTER a_WRONG_EPOCH a_INVALID_SEQUENCER a_POISONED a_WITHDRAWN a_MEMBERSHIP_REFUSED a_PERMISSION_DENIED : Addr} (G : OwnG Z a__VALUES a_NO_SUCH_NODE a_NO_SUCH_CELL a_NODE_DELETED a_INVALID_NAME a_EXISTS a_NOT_EMPTY a_NOT_A_FILE a_NOT_A_DIRECTORY a_GENERATION_MISMATCH a_TOO_LARGE a_ROOT_NOT_DELETABLE a_INVALID_HANDLE a_BAD_REQUEST a_UNAVAILABLE a_LOCK_HELD a_LOCK_NOT_HELD a_NOT_OPENED_FOR_USE a_SESSION_EXPIRED a_NO_MASTER a_WRONG_EPOCH a_INVALID_SEQUENCER a_POISONED a_WITHDRAWN a_MEMBERSHIP_REFUSED a_PERMISSION_DENIED) : Sta Z Z.heap "com/example/portunus/portunus/model/ErrorCode" "NO_SUCH_NODE" "Lcom/example/portunus/portunus/model/ErrorCode;" (.ref a_NO_SUCH_NODE) := G.2.2.1
theorem g_E_NO_SUCH_NODE {Z : State} {a__VALUES a_NO_SUCH_NODE a_NO_SUCH_CELL a_NODE_DELETED a_INVALID_NAME a_EXISTS a_NOT_EMPTY a_NOT_A_FILE a_NOT_A_DIRECTORY a_GENERATION_MISMATCH a_TOO_LARGE a_ROOT_NOT_DELETABLE a_INVALID_HANDLE a_BAD_REQUEST a_UNAVAILABLE a_LOCK_HELD a_LOCK_NOT_HELD a_NOT_OPENED_FOR_USE a_SESSION_EXPIRED a_NO_MASTER a_WRONG_EPOCH a_INVALID_SEQUENCER a_POISONED a_WITHDRAWN a_MEMBERSHIP_REFUSED a_PERMISSION_DENIED : Addr} (G : OwnG Z a__VALUES a_NO_SUCH_NODE a_NO_SUCH_CELL a_NODE_DELETED a_INVALID_NAME a_EXISTS a_NOT_EMPTY a_NOT_A_FILE a_NOT_A_DIRECTORY a_GENERATION_MISMATCH a_TOO_LARGE a_ROOT_NOT_DELETABLE a_INVALID_HANDLE a_BAD_REQUEST a_UNAVAILABLE a_LOCK_HELD a_LOCK_NOT_HELD a_NOT_OPENED_FOR_USE a_SESSION_EXPIRED a_NO_MASTER a_WRONG_EPOCH a_INVALID_SEQUENCER a_POISONED a_WITHDRAWN a_MEMBERSHIP_REFUSED a_PERMISSION_DENIED) : Exa Z Z.heap a_NO_SUCH_NODE "com/example/portunus/portunus/model/ErrorCode" := G.2.2.2.1
theorem g_S_NO_SUCH_CELL {Z : State} {a__VALUES a_NO_SUCH_NODE a_NO_SUCH_CELL a_NODE_DELETED a_INVALID_NAME a_EXISTS a_NOT_EMPTY a_NOT_A_FILE a_NOT_A_DIRECTORY a_GENERATION_MISMATCH a_TOO_LARGE a_ROOT_NOT_DELETABLE a_INVALID_HANDLE a_BAD_REQUEST a_UNAVAILABLE a_LOCK_HELD a_LOCK_NOT_HELD a_NOT_OPENED_FOR_USE a_SESSION_EXPIRED a_NO_MASTER a_WRONG_EPOCH a_INVALID_SEQUENCER a_POISONED a_WITHDRAWN a_MEMBERSHIP_REFUSED a_PERMISSION_DENIED : Addr} (G : OwnG Z a__VALUES a_NO_SUCH_NODE a_NO_SUCH_CELL a_NODE_DELETED a_INVALID_NAME a_EXISTS a_NOT_EMPTY a_NOT_A_FILE a_NOT_A_DIRECTORY a_GENERATION_MISMATCH a_TOO_LARGE a_ROOT_NOT_DELETABLE a_INVALID_HANDLE a_BAD_REQUEST a_UNAVAILABLE a_LOCK_HELD a_LOCK_NOT_HELD a_NOT_OPENED_FOR_USE a_SESSION_EXPIRED a_NO_MASTER a_WRONG_EPOCH a_INVALID_SEQUENCER a_POISONED a_WITHDRAWN a_MEMBERSHIP_REFUSED a_PERMISSION_DENIED) : Sta Z Z.heap "com/example/portunus/portunus/model/ErrorCode" "NO_SUCH_CELL" "Lcom/example/portunus/portunus/model/ErrorCode;" (.ref a_NO_SUCH_CELL) := G.2.2.2.2.1
theorem g_E_NO_SUCH_CELL {Z : State} {a__VALUES a_NO_SUCH_NODE a_NO_SUCH_CELL a_NODE_DELETED a_INVALID_NAME a_EXISTS a_NOT_EMPTY a_NOT_A_FILE a_NOT_A_DIRECTORY a_GENERATION_MISMATCH a_TOO_LARGE a_ROOT_NOT_DELETABLE a_INVALID_HANDLE a_BAD_REQUEST a_UNAVAILABLE a_LOCK_HELD a_LOCK_NOT_HELD a_NOT_OPENED_FOR_USE a_SESSION_EXPIRED a_NO_MASTER a_WRONG_EPOCH a_INVALID_SEQUENCER a_POISONED a_WITHDRAWN a_MEMBERSHIP_REFUSED a_PERMISSION_DENIED : Addr} (G : OwnG Z a__VALUES a_NO_SUCH_NODE a_NO_SUCH_CELL a_NODE_DELETED a_INVALID_NAME a_EXISTS a_NOT_EMPTY a_NOT_A_FILE a_NOT_A_DIRECTORY a_GENERATION_MISMATCH a_TOO_LARGE a_ROOT_NOT_DELETABLE a_INVALID_HANDLE a_BAD_REQUEST a_UNAVAILABLE a_LOCK_HELD a_LOCK_NOT_HELD a_NOT_OPENED_FOR_USE a_SESSION_EXPIRED a_NO_MASTER a_WRONG_EPOCH a_INVALID_SEQUENCER a_POISONED a_WITHDRAWN a_MEMBERSHIP_REFUSED a_PERMISSION_DENIED) : Exa Z Z.heap a_NO_SUCH_CELL "com/example/portunus/portunus/model/ErrorCode" := G.2.2.2.2.2.1
theorem g_S_NODE_DELETED {Z : State} {a__VALUES a_NO_SUCH_NODE a_NO_SUCH_CELL a_NODE_DELETED a_INVALID_NAME a_EXISTS a_NOT_EMPTY a_NOT_A_FILE a_NOT_A_DIRECTORY a_GENERATION_MISMATCH a_TOO_LARGE a_ROOT_NOT_DELETABLE a_INVALID_HANDLE a_BAD_REQUEST a_UNAVAILABLE a_LOCK_HELD a_LOCK_NOT_HELD a_NOT_OPENED_FOR_USE a_SESSION_EXPIRED a_NO_MASTER a_WRONG_EPOCH a_INVALID_SEQUENCER a_POISONED a_WITHDRAWN a_MEMBERSHIP_REFUSED a_PERMISSION_DENIED : Addr} (G : OwnG Z a__VALUES a_NO_SUCH_NODE a_NO_SUCH_CELL a_NODE_DELETED a_INVALID_NAME a_EXISTS a_NOT_EMPTY a_NOT_A_FILE a_NOT_A_DIRECTORY a_GENERATION_MISMATCH a_TOO_LARGE a_ROOT_NOT_DELETABLE a_INVALID_HANDLE a_BAD_REQUEST a_UNAVAILABLE a_LOCK_HELD a_LOCK_NOT_HELD a_NOT_OPENED_FOR_USE a_SESSION_EXPIRED a_NO_MASTER a_WRONG_EPOCH a_INVALID_SEQUENCER a_POISONED a_WITHDRAWN a_MEMBERSHIP_REFUSED a_PERMISSION_DENIED) : Sta Z Z.heap "com/example/portunus/portunus/model/ErrorCode" "NODE_DELETED" "Lcom/example/portunus/portunus/model/ErrorCode;" (.ref a_NODE_DELETED) := G.2.2.2.2.2.2.1
theorem g_E_NODE_DELETED {Z : State} {a__VALUES a_NO_SUCH_NODE a_NO_SUCH_CELL a_NODE_DELETED a_INVALID_NAME a_EXISTS a_NOT_EMPTY a_NOT_A_FILE a_NOT_A_DIRECTORY a_GENERATION_MISMATCH a_TOO_LARGE a_ROOT_NOT_DELETABLE a_INVALID_HANDLE a_BAD_REQUEST a_UNAVAILABLE a_LOCK_HELD a_LOCK_NOT_HELD a_NOT_OPENED_FOR_USE a_SESSION_EXPIRED a_NO_MASTER a_WRONG_EPOCH a_INVALID_SEQUENCER a_POISONED a_WITHDRAWN a_MEMBERSHIP_REFUSED a_PERMISSION_DENIED : Addr} (G : OwnG Z a__VALUES a_NO_SUCH_NODE a_NO_SUCH_CELL a_NODE_DELETED a_INVALID_NAME a_EXISTS a_NOT_EMPTY a_NOT_A_FILE a_NOT_A_DIRECTORY a_GENERATION_MISMATCH a_TOO_LARGE a_ROOT_NOT_DELETABLE a_INVALID_HANDLE a_BAD_REQUEST a_UNAVAILABLE a_LOCK_HELD a_LOCK_NOT_HELD a_NOT_OPENED_FOR_USE a_SESSION_EXPIRED a_NO_MASTER a_WRONG_EPOCH a_INVALID_SEQUENCER a_POISONED a_WITHDRAWN a_MEMBERSHIP_REFUSED a_PERMISSION_DENIED) : Exa Z Z.heap a_NODE_DELETED "com/example/portunus/portunus/model/ErrorCode" := G.2.2.2.2.2.2.2.1
theorem g_S_INVALID_NAME {Z : State} {a__VALUES a_NO_SUCH_NODE a_NO_SUCH_CELL a_NODE_DELETED a_INVALID_NAME a_EXISTS a_NOT_EMPTY a_NOT_A_FILE a_NOT_A_DIRECTORY a_GENERATION_MISMATCH a_TOO_LARGE a_ROOT_NOT_DELETABLE a_INVALID_HANDLE a_BAD_REQUEST a_UNAVAILABLE a_LOCK_HELD a_LOCK_NOT_HELD a_NOT_OPENED_FOR_USE a_SESSION_EXPIRED a_NO_MASTER a_WRONG_EPOCH a_INVALID_SEQUENCER a_POISONED a_WITHDRAWN a_MEMBERSHIP_REFUSED a_PERMISSION_DENIED : Addr} (G : OwnG Z a__VALUES a_NO_SUCH_NODE a_NO_SUCH_CELL a_NODE_DELETED a_INVALID_NAME a_EXISTS a_NOT_EMPTY a_NOT_A_FILE a_NOT_A_DIRECTORY a_GENERATION_MISMATCH a_TOO_LARGE a_ROOT_NOT_DELETABLE a_INVALID_HANDLE a_BAD_REQUEST a_UNAVAILABLE a_LOCK_HELD a_LOCK_NOT_HELD a_NOT_OPENED_FOR_USE a_SESSION_EXPIRED a_NO_MASTER a_WRONG_EPOCH a_INVALID_SEQUENCER a_POISONED a_WITHDRAWN a_MEMBERSHIP_REFUSED a_PERMISSION_DENIED) : Sta Z Z.heap "com/example/portunus/portunus/model/ErrorCode" "INVALID_NAME" "Lcom/example/portunus/portunus/model/ErrorCode;" (.ref a_INVALID_NAME) := G.2.2.2.2.2.2.2.2.1
theorem g_E_INVALID_NAME {Z : State} {a__VALUES a_NO_SUCH_NODE a_NO_SUCH_CELL a_NODE_DELETED a_INVALID_NAME a_EXISTS a_NOT_EMPTY a_NOT_A_FILE a_NOT_A_DIRECTORY a_GENERATION_MISMATCH a_TOO_LARGE a_ROOT_NOT_DELETABLE a_INVALID_HANDLE a_BAD_REQUEST a_UNAVAILABLE a_LOCK_HELD a_LOCK_NOT_HELD a_NOT_OPENED_FOR_USE a_SESSION_EXPIRED a_NO_MASTER a_WRONG_EPOCH a_INVALID_SEQUENCER a_POISONED a_WITHDRAWN a_MEMBERSHIP_REFUSED a_PERMISSION_DENIED : Addr} (G : OwnG Z a__VALUES a_NO_SUCH_NODE a_NO_SUCH_CELL a_NODE_DELETED a_INVALID_NAME a_EXISTS a_NOT_EMPTY a_NOT_A_FILE a_NOT_A_DIRECTORY a_GENERATION_MISMATCH a_TOO_LARGE a_ROOT_NOT_DELETABLE a_INVALID_HANDLE a_BAD_REQUEST a_UNAVAILABLE a_LOCK_HELD a_LOCK_NOT_HELD a_NOT_OPENED_FOR_USE a_SESSION_EXPIRED a_NO_MASTER a_WRONG_EPOCH a_INVALID_SEQUENCER a_POISONED a_WITHDRAWN a_MEMBERSHIP_REFUSED a_PERMISSION_DENIED) : Exa Z Z.heap a_INVALID_NAME "com/example/portunus/portunus/model/ErrorCode" := G.2.2.2.2.2.2.2.2.2.1
theorem g_S_EXISTS {Z : State} {a__VALUES a_NO_SUCH_NODE a_NO_SUCH_CELL a_NODE_DELETED a_INVALID_NAME a_EXISTS a_NOT_EMPTY a_NOT_A_FILE a_NOT_A_DIRECTORY a_GENERATION_MISMATCH a_TOO_LARGE a_ROOT_NOT_DELETABLE a_INVALID_HANDLE a_BAD_REQUEST a_UNAVAILABLE a_LOCK_HELD a_LOCK_NOT_HELD a_NOT_OPENED_FOR_USE a_SESSION_EXPIRED a_NO_MASTER a_WRONG_EPOCH a_INVALID_SEQUENCER a_POISONED a_WITHDRAWN a_MEMBERSHIP_REFUSED a_PERMISSION_DENIED : Addr} (G : OwnG Z a__VALUES a_NO_SUCH_NODE a_NO_SUCH_CELL a_NODE_DELETED a_INVALID_NAME a_EXISTS a_NOT_EMPTY a_NOT_A_FILE a_NOT_A_DIRECTORY a_GENERATION_MISMATCH a_TOO_LARGE a_ROOT_NOT_DELETABLE a_INVALID_HANDLE a_BAD_REQUEST a_UNAVAILABLE a_LOCK_HELD a_LOCK_NOT_HELD a_NOT_OPENED_FOR_USE a_SESSION_EXPIRED a_NO_MASTER a_WRONG_EPOCH a_INVALID_SEQUENCER a_POISONED a_WITHDRAWN a_MEMBERSHIP_REFUSED a_PERMISSION_DENIED) : Sta Z Z.heap "com/example/portunus/portunus/model/ErrorCode" "EXISTS" "Lcom/example/portunus/portunus/model/ErrorCode;" (.ref a_EXISTS) := G.2.2.2.2.2.2.2.2.2.2.1
theorem g_E_EXISTS {Z : State} {a__VALUES a_NO_SUCH_NODE a_NO_SUCH_CELL a_NODE_DELETED a_INVALID_NAME a_EXISTS a_NOT_EMPTY a_NOT_A_FILE a_NOT_A_DIRECTORY a_GENERATION_MISMATCH a_TOO_LARGE a_ROOT_NOT_DELETABLE a_INVALID_HANDLE a_BAD_REQUEST a_UNAVAILABLE a_LOCK_HELD a_LOCK_NOT_HELD a_NOT_OPENED_FOR_USE a_SESSION_EXPIRED a_NO_MASTER a_WRONG_EPOCH a_INVALID_SEQUENCER a_POISONED a_WITHDRAWN a_MEMBERSHIP_REFUSED a_PERMISSION_DENIED : Addr} (G : OwnG Z a__VALUES a_NO_SUCH_NODE a_NO_SUCH_CELL a_NODE_DELETED a_INVALID_NAME a_EXISTS a_NOT_EMPTY a_NOT_A_FILE a_NOT_A_DIRECTORY a_GENERATION_MISMATCH a_TOO_LARGE a_ROOT_NOT_DELETABLE a_INVALID_HANDLE a_BAD_REQUEST a_UNAVAILABLE a_LOCK_HELD a_LOCK_NOT_HELD a_NOT_OPENED_FOR_USE a_SESSION_EXPIRED a_NO_MASTER a_WRONG_EPOCH a_INVALID_SEQUENCER a_POISONED a_WITHDRAWN a_MEMBERSHIP_REFUSED a_PERMISSION_DENIED) : Exa Z Z.heap a_EXISTS "com/example/portunus/portunus/model/ErrorCode" := G.2.2.2.2.2.2.2.2.2.2.2.1
theorem g_S_NOT_EMPTY {Z : State} {a__VALUES a_NO_SUCH_NODE a_NO_SUCH_CELL a_NODE_DELETED a_INVALID_NAME a_EXISTS a_NOT_EMPTY a_NOT_A_FILE a_NOT_A_DIRECTORY a_GENERATION_MISMATCH a_TOO_LARGE a_ROOT_NOT_DELETABLE a_INVALID_HANDLE a_BAD_REQUEST a_UNAVAILABLE a_LOCK_HELD a_LOCK_NOT_HELD a_NOT_OPENED_FOR_USE a_SESSION_EXPIRED a_NO_MASTER a_WRONG_EPOCH a_INVALID_SEQUENCER a_POISONED a_WITHDRAWN a_MEMBERSHIP_REFUSED a_PERMISSION_DENIED : Addr} (G : OwnG Z a__VALUES a_NO_SUCH_NODE a_NO_SUCH_CELL a_NODE_DELETED a_INVALID_NAME a_EXISTS a_NOT_EMPTY a_NOT_A_FILE a_NOT_A_DIRECTORY a_GENERATION_MISMATCH a_TOO_LARGE a_ROOT_NOT_DELETABLE a_INVALID_HANDLE a_BAD_REQUEST a_UNAVAILABLE a_LOCK_HELD a_LOCK_NOT_HELD a_NOT_OPENED_FOR_USE a_SESSION_EXPIRED a_NO_MASTER a_WRONG_EPOCH a_INVALID_SEQUENCER a_POISONED a_WITHDRAWN a_MEMBERSHIP_REFUSED a_PERMISSION_DENIED) : Sta Z Z.heap "com/example/portunus/portunus/model/ErrorCode" "NOT_EMPTY" "Lcom/example/portunus/portunus/model/ErrorCode;" (.ref a_NOT_EMPTY) := G.2.2.2.2.2.2.2.2.2.2.2.2.1
theorem g_E_NOT_EMPTY {Z : State} {a__VALUES a_NO_SUCH_NODE a_NO_SUCH_CELL a_NODE_DELETED a_INVALID_NAME a_EXISTS a_NOT_EMPTY a_NOT_A_FILE a_NOT_A_DIRECTORY a_GENERATION_MISMATCH a_TOO_LARGE a_ROOT_NOT_DELETABLE a_INVALID_HANDLE a_BAD_REQUEST a_UNAVAILABLE a_LOCK_HELD a_LOCK_NOT_HELD a_NOT_OPENED_FOR_USE a_SESSION_EXPIRED a_NO_MASTER a_WRONG_EPOCH a_INVALID_SEQUENCER a_POISONED a_WITHDRAWN a_MEMBERSHIP_REFUSED a_PERMISSION_DENIED : Addr} (G : OwnG Z a__VALUES a_NO_SUCH_NODE a_NO_SUCH_CELL a_NODE_DELETED a_INVALID_NAME a_EXISTS a_NOT_EMPTY a_NOT_A_FILE a_NOT_A_DIRECTORY a_GENERATION_MISMATCH a_TOO_LARGE a_ROOT_NOT_DELETABLE a_INVALID_HANDLE a_BAD_REQUEST a_UNAVAILABLE a_LOCK_HELD a_LOCK_NOT_HELD a_NOT_OPENED_FOR_USE a_SESSION_EXPIRED a_NO_MASTER a_WRONG_EPOCH a_INVALID_SEQUENCER a_POISONED a_WITHDRAWN a_MEMBERSHIP_REFUSED a_PERMISSION_DENIED) : Exa Z Z.heap a_NOT_EMPTY "com/example/portunus/portunus/model/ErrorCode" := G.2.2.2.2.2.2.2.2.2.2.2.2.2.1
theorem g_S_NOT_A_FILE {Z : State} {a__VALUES a_NO_SUCH_NODE a_NO_SUCH_CELL a_NODE_DELETED a_INVALID_NAME a_EXISTS a_NOT_EMPTY a_NOT_A_FILE a_NOT_A_DIRECTORY a_GENERATION_MISMATCH a_TOO_LARGE a_ROOT_NOT_DELETABLE a_INVALID_HANDLE a_BAD_REQUEST a_UNAVAILABLE a_LOCK_HELD a_LOCK_NOT_HELD a_NOT_OPENED_FOR_USE a_SESSION_EXPIRED a_NO_MASTER a_WRONG_EPOCH a_INVALID_SEQUENCER a_POISONED a_WITHDRAWN a_MEMBERSHIP_REFUSED a_PERMISSION_DENIED : Addr} (G : OwnG Z a__VALUES a_NO_SUCH_NODE a_NO_SUCH_CELL a_NODE_DELETED a_INVALID_NAME a_EXISTS a_NOT_EMPTY a_NOT_A_FILE a_NOT_A_DIRECTORY a_GENERATION_MISMATCH a_TOO_LARGE a_ROOT_NOT_DELETABLE a_INVALID_HANDLE a_BAD_REQUEST a_UNAVAILABLE a_LOCK_HELD a_LOCK_NOT_HELD a_NOT_OPENED_FOR_USE a_SESSION_EXPIRED a_NO_MASTER a_WRONG_EPOCH a_INVALID_SEQUENCER a_POISONED a_WITHDRAWN a_MEMBERSHIP_REFUSED a_PERMISSION_DENIED) : Sta Z Z.heap "com/example/portunus/portunus/model/ErrorCode" "NOT_A_FILE" "Lcom/example/portunus/portunus/model/ErrorCode;" (.ref a_NOT_A_FILE) := G.2.2.2.2.2.2.2.2.2.2.2.2.2.2.1
theorem g_E_NOT_A_FILE {Z : State} {a__VALUES a_NO_SUCH_NODE a_NO_SUCH_CELL a_NODE_DELETED a_INVALID_NAME a_EXISTS a_NOT_EMPTY a_NOT_A_FILE a_NOT_A_DIRECTORY a_GENERATION_MISMATCH a_TOO_LARGE a_ROOT_NOT_DELETABLE a_INVALID_HANDLE a_BAD_REQUEST a_UNAVAILABLE a_LOCK_HELD a_LOCK_NOT_HELD a_NOT_OPENED_FOR_USE a_SESSION_EXPIRED a_NO_MASTER a_WRONG_EPOCH a_INVALID_SEQUENCER a_POISONED a_WITHDRAWN a_MEMBERSHIP_REFUSED a_PERMISSION_DENIED : Addr} (G : OwnG Z a__VALUES a_NO_SUCH_NODE a_NO_SUCH_CELL a_NODE_DELETED a_INVALID_NAME a_EXISTS a_NOT_EMPTY a_NOT_A_FILE a_NOT_A_DIRECTORY a_GENERATION_MISMATCH a_TOO_LARGE a_ROOT_NOT_DELETABLE a_INVALID_HANDLE a_BAD_REQUEST a_UNAVAILABLE a_LOCK_HELD a_LOCK_NOT_HELD a_NOT_OPENED_FOR_USE a_SESSION_EXPIRED a_NO_MASTER a_WRONG_EPOCH a_INVALID_SEQUENCER a_POISONED a_WITHDRAWN a_MEMBERSHIP_REFUSED a_PERMISSION_DENIED) : Exa Z Z.heap a_NOT_A_FILE "com/example/portunus/portunus/model/ErrorCode" := G.2.2.2.2.2.2.2.2.2.2.2.2.2.2.2.1
theorem g_S_NOT_A_DIRECTORY {Z : State} {a__VALUES a_NO_SUCH_NODE a_NO_SUCH_CELL a_NODE_DELETED a_INVALID_NAME a_EXISTS a_NOT_EMPTY a_NOT_A_FILE a_NOT_A_DIRECTORY a_GENERATION_MISMATCH a_TOO_LARGE a_ROOT_NOT_DELETABLE a_INVALID_HANDLE a_BAD_REQUEST a_UNAVAILABLE a_LOCK_HELD a_LOCK_NOT_HELD a_NOT_OPENED_FOR_USE a_SESSION_EXPIRED a_NO_MASTER a_WRONG_EPOCH a_INVALID_SEQUENCER a_POISONED a_WITHDRAWN a_MEMBERSHIP_REFUSED a_PERMISSION_DENIED : Addr} (G : OwnG Z a__VALUES a_NO_SUCH_NODE a_NO_SUCH_CELL a_NODE_DELETED a_INVALID_NAME a_EXISTS a_NOT_EMPTY a_NOT_A_FILE a_NOT_A_DIRECTORY a_GENERATION_MISMATCH a_TOO_LARGE a_ROOT_NOT_DELETABLE a_INVALID_HANDLE a_BAD_REQUEST a_UNAVAILABLE a_LOCK_HELD a_LOCK_NOT_HELD a_NOT_OPENED_FOR_USE a_SESSION_EXPIRED a_NO_MASTER a_WRONG_EPOCH a_INVALID_SEQUENCER a_POISONED a_WITHDRAWN a_MEMBERSHIP_REFUSED a_PERMISSION_DENIED) : Sta Z Z.heap "com/example/portunus/portunus/model/ErrorCode" "NOT_A_DIRECTORY" "Lcom/example/portunus/portunus/model/ErrorCode;" (.ref a_NOT_A_DIRECTORY) := G.2.2.2.2.2.2.2.2.2.2.2.2.2.2.2.2.1
theorem g_E_NOT_A_DIRECTORY {Z : State} {a__VALUES a_NO_SUCH_NODE a_NO_SUCH_CELL a_NODE_DELETED a_INVALID_NAME a_EXISTS a_NOT_EMPTY a_NOT_A_FILE a_NOT_A_DIRECTORY a_GENERATION_MISMATCH a_TOO_LARGE a_ROOT_NOT_DELETABLE a_INVALID_HANDLE a_BAD_REQUEST a_UNAVAILABLE a_LOCK_HELD a_LOCK_NOT_HELD a_NOT_OPENED_FOR_USE a_SESSION_EXPIRED a_NO_MASTER a_WRONG_EPOCH a_INVALID_SEQUENCER a_POISONED a_WITHDRAWN a_MEMBERSHIP_REFUSED a_PERMISSION_DENIED : Addr} (G : OwnG Z a__VALUES a_NO_SUCH_NODE a_NO_SUCH_CELL a_NODE_DELETED a_INVALID_NAME a_EXISTS a_NOT_EMPTY a_NOT_A_FILE a_NOT_A_DIRECTORY a_GENERATION_MISMATCH a_TOO_LARGE a_ROOT_NOT_DELETABLE a_INVALID_HANDLE a_BAD_REQUEST a_UNAVAILABLE a_LOCK_HELD a_LOCK_NOT_HELD a_NOT_OPENED_FOR_USE a_SESSION_EXPIRED a_NO_MASTER a_WRONG_EPOCH a_INVALID_SEQUENCER a_POISONED a_WITHDRAWN a_MEMBERSHIP_REFUSED a_PERMISSION_DENIED) : Exa Z Z.heap a_NOT_A_DIRECTORY "com/example/portunus/portunus/model/ErrorCode" := G.2.2.2.2.2.2.2.2.2.2.2.2.2.2.2.2.2.1
theorem g_S_GENERATION_MISMATCH {Z : State} {a__VALUES a_NO_SUCH_NODE a_NO_SUCH_CELL a_NODE_DELETED a_INVALID_NAME a_EXISTS a_NOT_EMPTY a_NOT_A_FILE a_NOT_A_DIRECTORY a_GENERATION_MISMATCH a_TOO_LARGE a_ROOT_NOT_DELETABLE a_INVALID_HANDLE a_BAD_REQUEST a_UNAVAILABLE a_LOCK_HELD a_LOCK_NOT_HELD a_NOT_OPENED_FOR_USE a_SESSION_EXPIRED a_NO_MASTER a_WRONG_EPOCH a_INVALID_SEQUENCER a_POISONED a_WITHDRAWN a_MEMBERSHIP_REFUSED a_PERMISSION_DENIED : Addr} (G : OwnG Z a__VALUES a_NO_SUCH_NODE a_NO_SUCH_CELL a_NODE_DELETED a_INVALID_NAME a_EXISTS a_NOT_EMPTY a_NOT_A_FILE a_NOT_A_DIRECTORY a_GENERATION_MISMATCH a_TOO_LARGE a_ROOT_NOT_DELETABLE a_INVALID_HANDLE a_BAD_REQUEST a_UNAVAILABLE a_LOCK_HELD a_LOCK_NOT_HELD a_NOT_OPENED_FOR_USE a_SESSION_EXPIRED a_NO_MASTER a_WRONG_EPOCH a_INVALID_SEQUENCER a_POISONED a_WITHDRAWN a_MEMBERSHIP_REFUSED a_PERMISSION_DENIED) : Sta Z Z.heap "com/example/portunus/portunus/model/ErrorCode" "GENERATION_MISMATCH" "Lcom/example/portunus/portunus/model/ErrorCode;" (.ref a_GENERATION_MISMATCH) := G.2.2.2.2.2.2.2.2.2.2.2.2.2.2.2.2.2.2.1
theorem g_E_GENERATION_MISMATCH {Z : State} {a__VALUES a_NO_SUCH_NODE a_NO_SUCH_CELL a_NODE_DELETED a_INVALID_NAME a_EXISTS a_NOT_EMPTY a_NOT_A_FILE a_NOT_A_DIRECTORY a_GENERATION_MISMATCH a_TOO_LARGE a_ROOT_NOT_DELETABLE a_INVALID_HANDLE a_BAD_REQUEST a_UNAVAILABLE a_LOCK_HELD a_LOCK_NOT_HELD a_NOT_OPENED_FOR_USE a_SESSION_EXPIRED a_NO_MASTER a_WRONG_EPOCH a_INVALID_SEQUENCER a_POISONED a_WITHDRAWN a_MEMBERSHIP_REFUSED a_PERMISSION_DENIED : Addr} (G : OwnG Z a__VALUES a_NO_SUCH_NODE a_NO_SUCH_CELL a_NODE_DELETED a_INVALID_NAME a_EXISTS a_NOT_EMPTY a_NOT_A_FILE a_NOT_A_DIRECTORY a_GENERATION_MISMATCH a_TOO_LARGE a_ROOT_NOT_DELETABLE a_INVALID_HANDLE a_BAD_REQUEST a_UNAVAILABLE a_LOCK_HELD a_LOCK_NOT_HELD a_NOT_OPENED_FOR_USE a_SESSION_EXPIRED a_NO_MASTER a_WRONG_EPOCH a_INVALID_SEQUENCER a_POISONED a_WITHDRAWN a_MEMBERSHIP_REFUSED a_PERMISSION_DENIED) : Exa Z Z.heap a_GENERATION_MISMATCH "com/example/portunus/portunus/model/ErrorCode" := G.2.2.2.2.2.2.2.2.2.2.2.2.2.2.2.2.2.2.2.1
theorem g_S_TOO_LARGE {Z : State} {a__VALUES a_NO_SUCH_NODE a_NO_SUCH_CELL a_NODE_DELETED a_INVALID_NAME a_EXISTS a_NOT_EMPTY a_NOT_A_FILE a_NOT_A_DIRECTORY a_GENERATION_MISMATCH a_TOO_LARGE a_ROOT_NOT_DELETABLE a_INVALID_HANDLE a_BAD_REQUEST a_UNAVAILABLE a_LOCK_HELD a_LOCK_NOT_HELD a_NOT_OPENED_FOR_USE a_SESSION_EXPIRED a_NO_MASTER a_WRONG_EPOCH a_INVALID_SEQUENCER a_POISONED a_WITHDRAWN a_MEMBERSHIP_REFUSED a_PERMISSION_DENIED : Addr} (G : OwnG Z a__VALUES a_NO_SUCH_NODE a_NO_SUCH_CELL a_NODE_DELETED a_INVALID_NAME a_EXISTS a_NOT_EMPTY a_NOT_A_FILE a_NOT_A_DIRECTORY a_GENERATION_MISMATCH a_TOO_LARGE a_ROOT_NOT_DELETABLE a_INVALID_HANDLE a_BAD_REQUEST a_UNAVAILABLE a_LOCK_HELD a_LOCK_NOT_HELD a_NOT_OPENED_FOR_USE a_SESSION_EXPIRED a_NO_MASTER a_WRONG_EPOCH a_INVALID_SEQUENCER a_POISONED a_WITHDRAWN a_MEMBERSHIP_REFUSED a_PERMISSION_DENIED) : Sta Z Z.heap "com/example/portunus/portunus/model/ErrorCode" "TOO_LARGE" "Lcom/example/portunus/portunus/model/ErrorCode;" (.ref a_TOO_LARGE) := G.2.2.2.2.2.2.2.2.2.2.2.2.2.2.2.2.2.2.2.2.1
theorem g_E_TOO_LARGE {Z : State} {a__VALUES a_NO_SUCH_NODE a_NO_SUCH_CELL a_NODE_DELETED a_INVALID_NAME a_EXISTS a_NOT_EMPTY a_NOT_A_FILE a_NOT_A_DIRECTORY a_GENERATION_MISMATCH a_TOO_LARGE a_ROOT_NOT_DELETABLE a_INVALID_HANDLE a_BAD_REQUEST a_UNAVAILABLE a_LOCK_HELD a_LOCK_NOT_HELD a_NOT_OPENED_FOR_USE a_SESSION_EXPIRED a_NO_MASTER a_WRONG_EPOCH a_INVALID_SEQUENCER a_POISONED a_WITHDRAWN a_MEMBERSHIP_REFUSED a_PERMISSION_DENIED : Addr} (G : OwnG Z a__VALUES a_NO_SUCH_NODE a_NO_SUCH_CELL a_NODE_DELETED a_INVALID_NAME a_EXISTS a_NOT_EMPTY a_NOT_A_FILE a_NOT_A_DIRECTORY a_GENERATION_MISMATCH a_TOO_LARGE a_ROOT_NOT_DELETABLE a_INVALID_HANDLE a_BAD_REQUEST a_UNAVAILABLE a_LOCK_HELD a_LOCK_NOT_HELD a_NOT_OPENED_FOR_USE a_SESSION_EXPIRED a_NO_MASTER a_WRONG_EPOCH a_INVALID_SEQUENCER a_POISONED a_WITHDRAWN a_MEMBERSHIP_REFUSED a_PERMISSION_DENIED) : Exa Z Z.heap a_TOO_LARGE "com/example/portunus/portunus/model/ErrorCode" := G.2.2.2.2.2.2.2.2.2.2.2.2.2.2.2.2.2.2.2.2.2.1
theorem g_S_ROOT_NOT_DELETABLE {Z : State} {a__VALUES a_NO_SUCH_NODE a_NO_SUCH_CELL a_NODE_DELETED a_INVALID_NAME a_EXISTS a_NOT_EMPTY a_NOT_A_FILE a_NOT_A_DIRECTORY a_GENERATION_MISMATCH a_TOO_LARGE a_ROOT_NOT_DELETABLE a_INVALID_HANDLE a_BAD_REQUEST a_UNAVAILABLE a_LOCK_HELD a_LOCK_NOT_HELD a_NOT_OPENED_FOR_USE a_SESSION_EXPIRED a_NO_MASTER a_WRONG_EPOCH a_INVALID_SEQUENCER a_POISONED a_WITHDRAWN a_MEMBERSHIP_REFUSED a_PERMISSION_DENIED : Addr} (G : OwnG Z a__VALUES a_NO_SUCH_NODE a_NO_SUCH_CELL a_NODE_DELETED a_INVALID_NAME a_EXISTS a_NOT_EMPTY a_NOT_A_FILE a_NOT_A_DIRECTORY a_GENERATION_MISMATCH a_TOO_LARGE a_ROOT_NOT_DELETABLE a_INVALID_HANDLE a_BAD_REQUEST a_UNAVAILABLE a_LOCK_HELD a_LOCK_NOT_HELD a_NOT_OPENED_FOR_USE a_SESSION_EXPIRED a_NO_MASTER a_WRONG_EPOCH a_INVALID_SEQUENCER a_POISONED a_WITHDRAWN a_MEMBERSHIP_REFUSED a_PERMISSION_DENIED) : Sta Z Z.heap "com/example/portunus/portunus/model/ErrorCode" "ROOT_NOT_DELETABLE" "Lcom/example/portunus/portunus/model/ErrorCode;" (.ref a_ROOT_NOT_DELETABLE) := G.2.2.2.2.2.2.2.2.2.2.2.2.2.2.2.2.2.2.2.2.2.2.1
theorem g_E_ROOT_NOT_DELETABLE {Z : State} {a__VALUES a_NO_SUCH_NODE a_NO_SUCH_CELL a_NODE_DELETED a_INVALID_NAME a_EXISTS a_NOT_EMPTY a_NOT_A_FILE a_NOT_A_DIRECTORY a_GENERATION_MISMATCH a_TOO_LARGE a_ROOT_NOT_DELETABLE a_INVALID_HANDLE a_BAD_REQUEST a_UNAVAILABLE a_LOCK_HELD a_LOCK_NOT_HELD a_NOT_OPENED_FOR_USE a_SESSION_EXPIRED a_NO_MASTER a_WRONG_EPOCH a_INVALID_SEQUENCER a_POISONED a_WITHDRAWN a_MEMBERSHIP_REFUSED a_PERMISSION_DENIED : Addr} (G : OwnG Z a__VALUES a_NO_SUCH_NODE a_NO_SUCH_CELL a_NODE_DELETED a_INVALID_NAME a_EXISTS a_NOT_EMPTY a_NOT_A_FILE a_NOT_A_DIRECTORY a_GENERATION_MISMATCH a_TOO_LARGE a_ROOT_NOT_DELETABLE a_INVALID_HANDLE a_BAD_REQUEST a_UNAVAILABLE a_LOCK_HELD a_LOCK_NOT_HELD a_NOT_OPENED_FOR_USE a_SESSION_EXPIRED a_NO_MASTER a_WRONG_EPOCH a_INVALID_SEQUENCER a_POISONED a_WITHDRAWN a_MEMBERSHIP_REFUSED a_PERMISSION_DENIED) : Exa Z Z.heap a_ROOT_NOT_DELETABLE "com/example/portunus/portunus/model/ErrorCode" := G.2.2.2.2.2.2.2.2.2.2.2.2.2.2.2.2.2.2.2.2.2.2.2.1
theorem g_S_INVALID_HANDLE {Z : State} {a__VALUES a_NO_SUCH_NODE a_NO_SUCH_CELL a_NODE_DELETED a_INVALID_NAME a_EXISTS a_NOT_EMPTY a_NOT_A_FILE a_NOT_A_DIRECTORY a_GENERATION_MISMATCH a_TOO_LARGE a_ROOT_NOT_DELETABLE a_INVALID_HANDLE a_BAD_REQUEST a_UNAVAILABLE a_LOCK_HELD a_LOCK_NOT_HELD a_NOT_OPENED_FOR_USE a_SESSION_EXPIRED a_NO_MASTER a_WRONG_EPOCH a_INVALID_SEQUENCER a_POISONED a_WITHDRAWN a_MEMBERSHIP_REFUSED a_PERMISSION_DENIED : Addr} (G : OwnG Z a__VALUES a_NO_SUCH_NODE a_NO_SUCH_CELL a_NODE_DELETED a_INVALID_NAME a_EXISTS a_NOT_EMPTY a_NOT_A_FILE a_NOT_A_DIRECTORY a_GENERATION_MISMATCH a_TOO_LARGE a_ROOT_NOT_DELETABLE a_INVALID_HANDLE a_BAD_REQUEST a_UNAVAILABLE a_LOCK_HELD a_LOCK_NOT_HELD a_NOT_OPENED_FOR_USE a_SESSION_EXPIRED a_NO_MASTER a_WRONG_EPOCH a_INVALID_SEQUENCER a_POISONED a_WITHDRAWN a_MEMBERSHIP_REFUSED a_PERMISSION_DENIED) : Sta Z Z.heap "com/example/portunus/portunus/model/ErrorCode" "INVALID_HANDLE" "Lcom/example/portunus/portunus/model/ErrorCode;" (.ref a_INVALID_HANDLE) := G.2.2.2.2.2.2.2.2.2.2.2.2.2.2.2.2.2.2.2.2.2.2.2.2.1
theorem g_E_INVALID_HANDLE {Z : State} {a__VALUES a_NO_SUCH_NODE a_NO_SUCH_CELL a_NODE_DELETED a_INVALID_NAME a_EXISTS a_NOT_EMPTY a_NOT_A_FILE a_NOT_A_DIRECTORY a_GENERATION_MISMATCH a_TOO_LARGE a_ROOT_NOT_DELETABLE a_INVALID_HANDLE a_BAD_REQUEST a_UNAVAILABLE a_LOCK_HELD a_LOCK_NOT_HELD a_NOT_OPENED_FOR_USE a_SESSION_EXPIRED a_NO_MASTER a_WRONG_EPOCH a_INVALID_SEQUENCER a_POISONED a_WITHDRAWN a_MEMBERSHIP_REFUSED a_PERMISSION_DENIED : Addr} (G : OwnG Z a__VALUES a_NO_SUCH_NODE a_NO_SUCH_CELL a_NODE_DELETED a_INVALID_NAME a_EXISTS a_NOT_EMPTY a_NOT_A_FILE a_NOT_A_DIRECTORY a_GENERATION_MISMATCH a_TOO_LARGE a_ROOT_NOT_DELETABLE a_INVALID_HANDLE a_BAD_REQUEST a_UNAVAILABLE a_LOCK_HELD a_LOCK_NOT_HELD a_NOT_OPENED_FOR_USE a_SESSION_EXPIRED a_NO_MASTER a_WRONG_EPOCH a_INVALID_SEQUENCER a_POISONED a_WITHDRAWN a_MEMBERSHIP_REFUSED a_PERMISSION_DENIED) : Exa Z Z.heap a_INVALID_HANDLE "com/example/portunus/portunus/model/ErrorCode" := G.2.2.2.2.2.2.2.2.2.2.2.2.2.2.2.2.2.2.2.2.2.2.2.2.2.1
theorem g_S_BAD_REQUEST {Z : State} {a__VALUES a_NO_SUCH_NODE a_NO_SUCH_CELL a_NODE_DELETED a_INVALID_NAME a_EXISTS a_NOT_EMPTY a_NOT_A_FILE a_NOT_A_DIRECTORY a_GENERATION_MISMATCH a_TOO_LARGE a_ROOT_NOT_DELETABLE a_INVALID_HANDLE a_BAD_REQUEST a_UNAVAILABLE a_LOCK_HELD a_LOCK_NOT_HELD a_NOT_OPENED_FOR_USE a_SESSION_EXPIRED a_NO_MASTER a_WRONG_EPOCH a_INVALID_SEQUENCER a_POISONED a_WITHDRAWN a_MEMBERSHIP_REFUSED a_PERMISSION_DENIED : Addr} (G : OwnG Z a__VALUES a_NO_SUCH_NODE a_NO_SUCH_CELL a_NODE_DELETED a_INVALID_NAME a_EXISTS a_NOT_EMPTY a_NOT_A_FILE a_NOT_A_DIRECTORY a_GENERATION_MISMATCH a_TOO_LARGE a_ROOT_NOT_DELETABLE a_INVALID_HANDLE a_BAD_REQUEST a_UNAVAILABLE a_LOCK_HELD a_LOCK_NOT_HELD a_NOT_OPENED_FOR_USE a_SESSION_EXPIRED a_NO_MASTER a_WRONG_EPOCH a_INVALID_SEQUENCER a_POISONED a_WITHDRAWN a_MEMBERSHIP_REFUSED a_PERMISSION_DENIED) : Sta Z Z.heap "com/example/portunus/portunus/model/ErrorCode" "BAD_REQUEST" "Lcom/example/portunus/portunus/model/ErrorCode;" (.ref a_BAD_REQUEST) := G.2.2.2.2.2.2.2.2.2.2.2.2.2.2.2.2.2.2.2.2.2.2.2.2.2.2.1
theorem g_E_BAD_REQUEST {Z : State} {a__VALUES a_NO_SUCH_NODE a_NO_SUCH_CELL a_NODE_DELETED a_INVALID_NAME a_EXISTS a_NOT_EMPTY a_NOT_A_FILE a_NOT_A_DIRECTORY a_GENERATION_MISMATCH a_TOO_LARGE a_ROOT_NOT_DELETABLE a_INVALID_HANDLE a_BAD_REQUEST a_UNAVAILABLE a_LOCK_HELD a_LOCK_NOT_HELD a_NOT_OPENED_FOR_USE a_SESSION_EXPIRED a_NO_MASTER a_WRONG_EPOCH a_INVALID_SEQUENCER a_POISONED a_WITHDRAWN a_MEMBERSHIP_REFUSED a_PERMISSION_DENIED : Addr} (G : OwnG Z a__VALUES a_NO_SUCH_NODE a_NO_SUCH_CELL a_NODE_DELETED a_INVALID_NAME a_EXISTS a_NOT_EMPTY a_NOT_A_FILE a_NOT_A_DIRECTORY a_GENERATION_MISMATCH a_TOO_LARGE a_ROOT_NOT_DELETABLE a_INVALID_HANDLE a_BAD_REQUEST a_UNAVAILABLE a_LOCK_HELD a_LOCK_NOT_HELD a_NOT_OPENED_FOR_USE a_SESSION_EXPIRED a_NO_MASTER a_WRONG_EPOCH a_INVALID_SEQUENCER a_POISONED a_WITHDRAWN a_MEMBERSHIP_REFUSED a_PERMISSION_DENIED) : Exa Z Z.heap a_BAD_REQUEST "com/example/portunus/portunus/model/ErrorCode" := G.2.2.2.2.2.2.2.2.2.2.2.2.2.2.2.2.2.2.2.2.2.2.2.2.2.2.2.1
theorem g_S_UNAVAILABLE {Z : State} {a__VALUES a_NO_SUCH_NODE a_NO_SUCH_CELL a_NODE_DELETED a_INVALID_NAME a_EXISTS a_NOT_EMPTY a_NOT_A_FILE a_NOT_A_DIRECTORY a_GENERATION_MISMATCH a_TOO_LARGE a_ROOT_NOT_DELETABLE a_INVALID_HANDLE a_BAD_REQUEST a_UNAVAILABLE a_LOCK_HELD a_LOCK_NOT_HELD a_NOT_OPENED_FOR_USE a_SESSION_EXPIRED a_NO_MASTER a_WRONG_EPOCH a_INVALID_SEQUENCER a_POISONED a_WITHDRAWN a_MEMBERSHIP_REFUSED a_PERMISSION_DENIED : Addr} (G : OwnG Z a__VALUES a_NO_SUCH_NODE a_NO_SUCH_CELL a_NODE_DELETED a_INVALID_NAME a_EXISTS a_NOT_EMPTY a_NOT_A_FILE a_NOT_A_DIRECTORY a_GENERATION_MISMATCH a_TOO_LARGE a_ROOT_NOT_DELETABLE a_INVALID_HANDLE a_BAD_REQUEST a_UNAVAILABLE a_LOCK_HELD a_LOCK_NOT_HELD a_NOT_OPENED_FOR_USE a_SESSION_EXPIRED a_NO_MASTER a_WRONG_EPOCH a_INVALID_SEQUENCER a_POISONED a_WITHDRAWN a_MEMBERSHIP_REFUSED a_PERMISSION_DENIED) : Sta Z Z.heap "com/example/portunus/portunus/model/ErrorCode" "UNAVAILABLE" "Lcom/example/portunus/portunus/model/ErrorCode;" (.ref a_UNAVAILABLE) := G.2.2.2.2.2.2.2.2.2.2.2.2.2.2.2.2.2.2.2.2.2.2.2.2.2.2.2.2.1
theorem g_E_UNAVAILABLE {Z : State} {a__VALUES a_NO_SUCH_NODE a_NO_SUCH_CELL a_NODE_DELETED a_INVALID_NAME a_EXISTS a_NOT_EMPTY a_NOT_A_FILE a_NOT_A_DIRECTORY a_GENERATION_MISMATCH a_TOO_LARGE a_ROOT_NOT_DELETABLE a_INVALID_HANDLE a_BAD_REQUEST a_UNAVAILABLE a_LOCK_HELD a_LOCK_NOT_HELD a_NOT_OPENED_FOR_USE a_SESSION_EXPIRED a_NO_MASTER a_WRONG_EPOCH a_INVALID_SEQUENCER a_POISONED a_WITHDRAWN a_MEMBERSHIP_REFUSED a_PERMISSION_DENIED : Addr} (G : OwnG Z a__VALUES a_NO_SUCH_NODE a_NO_SUCH_CELL a_NODE_DELETED a_INVALID_NAME a_EXISTS a_NOT_EMPTY a_NOT_A_FILE a_NOT_A_DIRECTORY a_GENERATION_MISMATCH a_TOO_LARGE a_ROOT_NOT_DELETABLE a_INVALID_HANDLE a_BAD_REQUEST a_UNAVAILABLE a_LOCK_HELD a_LOCK_NOT_HELD a_NOT_OPENED_FOR_USE a_SESSION_EXPIRED a_NO_MASTER a_WRONG_EPOCH a_INVALID_SEQUENCER a_POISONED a_WITHDRAWN a_MEMBERSHIP_REFUSED a_PERMISSION_DENIED) : Exa Z Z.heap a_UNAVAILABLE "com/example/portunus/portunus/model/ErrorCode" := G.2.2.2.2.2.2.2.2.2.2.2.2.2.2.2.2.2.2.2.2.2.2.2.2.2.2.2.2.2.1
theorem g_S_LOCK_HELD {Z : State} {a__VALUES a_NO_SUCH_NODE a_NO_SUCH_CELL a_NODE_DELETED a_INVALID_NAME a_EXISTS a_NOT_EMPTY a_NOT_A_FILE a_NOT_A_DIRECTORY a_GENERATION_MISMATCH a_TOO_LARGE a_ROOT_NOT_DELETABLE a_INVALID_HANDLE a_BAD_REQUEST a_UNAVAILABLE a_LOCK_HELD a_LOCK_NOT_HELD a_NOT_OPENED_FOR_USE a_SESSION_EXPIRED a_NO_MASTER a_WRONG_EPOCH a_INVALID_SEQUENCER a_POISONED a_WITHDRAWN a_MEMBERSHIP_REFUSED a_PERMISSION_DENIED : Addr} (G : OwnG Z a__VALUES a_NO_SUCH_NODE a_NO_SUCH_CELL a_NODE_DELETED a_INVALID_NAME a_EXISTS a_NOT_EMPTY a_NOT_A_FILE a_NOT_A_DIRECTORY a_GENERATION_MISMATCH a_TOO_LARGE a_ROOT_NOT_DELETABLE a_INVALID_HANDLE a_BAD_REQUEST a_UNAVAILABLE a_LOCK_HELD a_LOCK_NOT_HELD a_NOT_OPENED_FOR_USE a_SESSION_EXPIRED a_NO_MASTER a_WRONG_EPOCH a_INVALID_SEQUENCER a_POISONED a_WITHDRAWN a_MEMBERSHIP_REFUSED a_PERMISSION_DENIED) : Sta Z Z.heap "com/example/portunus/portunus/model/ErrorCode" "LOCK_HELD" "Lcom/example/portunus/portunus/model/ErrorCode;" (.ref a_LOCK_HELD) := G.2.2.2.2.2.2.2.2.2.2.2.2.2.2.2.2.2.2.2.2.2.2.2.2.2.2.2.2.2.2.1
theorem g_E_LOCK_HELD {Z : State} {a__VALUES a_NO_SUCH_NODE a_NO_SUCH_CELL a_NODE_DELETED a_INVALID_NAME a_EXISTS a_NOT_EMPTY a_NOT_A_FILE a_NOT_A_DIRECTORY a_GENERATION_MISMATCH a_TOO_LARGE a_ROOT_NOT_DELETABLE a_INVALID_HANDLE a_BAD_REQUEST a_UNAVAILABLE a_LOCK_HELD a_LOCK_NOT_HELD a_NOT_OPENED_FOR_USE a_SESSION_EXPIRED a_NO_MASTER a_WRONG_EPOCH a_INVALID_SEQUENCER a_POISONED a_WITHDRAWN a_MEMBERSHIP_REFUSED a_PERMISSION_DENIED : Addr} (G : OwnG Z a__VALUES a_NO_SUCH_NODE a_NO_SUCH_CELL a_NODE_DELETED a_INVALID_NAME a_EXISTS a_NOT_EMPTY a_NOT_A_FILE a_NOT_A_DIRECTORY a_GENERATION_MISMATCH a_TOO_LARGE a_ROOT_NOT_DELETABLE a_INVALID_HANDLE a_BAD_REQUEST a_UNAVAILABLE a_LOCK_HELD a_LOCK_NOT_HELD a_NOT_OPENED_FOR_USE a_SESSION_EXPIRED a_NO_MASTER a_WRONG_EPOCH a_INVALID_SEQUENCER a_POISONED a_WITHDRAWN a_MEMBERSHIP_REFUSED a_PERMISSION_DENIED) : Exa Z Z.heap a_LOCK_HELD "com/example/portunus/portunus/model/ErrorCode" := G.2.2.2.2.2.2.2.2.2.2.2.2.2.2.2.2.2.2.2.2.2.2.2.2.2.2.2.2.2.2.2.1
theorem g_S_LOCK_NOT_HELD {Z : State} {a__VALUES a_NO_SUCH_NODE a_NO_SUCH_CELL a_NODE_DELETED a_INVALID_NAME a_EXISTS a_NOT_EMPTY a_NOT_A_FILE a_NOT_A_DIRECTORY a_GENERATION_MISMATCH a_TOO_LARGE a_ROOT_NOT_DELETABLE a_INVALID_HANDLE a_BAD_REQUEST a_UNAVAILABLE a_LOCK_HELD a_LOCK_NOT_HELD a_NOT_OPENED_FOR_USE a_SESSION_EXPIRED a_NO_MASTER a_WRONG_EPOCH a_INVALID_SEQUENCER a_POISONED a_WITHDRAWN a_MEMBERSHIP_REFUSED a_PERMISSION_DENIED : Addr} (G : OwnG Z a__VALUES a_NO_SUCH_NODE a_NO_SUCH_CELL a_NODE_DELETED a_INVALID_NAME a_EXISTS a_NOT_EMPTY a_NOT_A_FILE a_NOT_A_DIRECTORY a_GENERATION_MISMATCH a_TOO_LARGE a_ROOT_NOT_DELETABLE a_INVALID_HANDLE a_BAD_REQUEST a_UNAVAILABLE a_LOCK_HELD a_LOCK_NOT_HELD a_NOT_OPENED_FOR_USE a_SESSION_EXPIRED a_NO_MASTER a_WRONG_EPOCH a_INVALID_SEQUENCER a_POISONED a_WITHDRAWN a_MEMBERSHIP_REFUSED a_PERMISSION_DENIED) : Sta Z Z.heap "com/example/portunus/portunus/model/ErrorCode" "LOCK_NOT_HELD" "Lcom/example/portunus/portunus/model/ErrorCode;" (.ref a_LOCK_NOT_HELD) := G.2.2.2.2.2.2.2.2.2.2.2.2.2.2.2.2.2.2.2.2.2.2.2.2.2.2.2.2.2.2.2.2.1
theorem g_E_LOCK_NOT_HELD {Z : State} {a__VALUES a_NO_SUCH_NODE a_NO_SUCH_CELL a_NODE_DELETED a_INVALID_NAME a_EXISTS a_NOT_EMPTY a_NOT_A_FILE a_NOT_A_DIRECTORY a_GENERATION_MISMATCH a_TOO_LARGE a_ROOT_NOT_DELETABLE a_INVALID_HANDLE a_BAD_REQUEST a_UNAVAILABLE a_LOCK_HELD a_LOCK_NOT_HELD a_NOT_OPENED_FOR_USE a_SESSION_EXPIRED a_NO_MASTER a_WRONG_EPOCH a_INVALID_SEQUENCER a_POISONED a_WITHDRAWN a_MEMBERSHIP_REFUSED a_PERMISSION_DENIED : Addr} (G : OwnG Z a__VALUES a_NO_SUCH_NODE a_NO_SUCH_CELL a_NODE_DELETED a_INVALID_NAME a_EXISTS a_NOT_EMPTY a_NOT_A_FILE a_NOT_A_DIRECTORY a_GENERATION_MISMATCH a_TOO_LARGE a_ROOT_NOT_DELETABLE a_INVALID_HANDLE a_BAD_REQUEST a_UNAVAILABLE a_LOCK_HELD a_LOCK_NOT_HELD a_NOT_OPENED_FOR_USE a_SESSION_EXPIRED a_NO_MASTER a_WRONG_EPOCH a_INVALID_SEQUENCER a_POISONED a_WITHDRAWN a_MEMBERSHIP_REFUSED a_PERMISSION_DENIED) : Exa Z Z.heap a_LOCK_NOT_HELD "com/example/portunus/portunus/model/ErrorCode" := G.2.2.2.2.2.2.2.2.2.2.2.2.2.2.2.2.2.2.2.2.2.2.2.2.2.2.2.2.2.2.2.2.2.1
theorem g_S_NOT_OPENED_FOR_USE {Z : State} {a__VALUES a_NO_SUCH_NODE a_NO_SUCH_CELL a_NODE_DELETED a_INVALID_NAME a_EXISTS a_NOT_EMPTY a_NOT_A_FILE a_NOT_A_DIRECTORY a_GENERATION_MISMATCH a_TOO_LARGE a_ROOT_NOT_DELETABLE a_INVALID_HANDLE a_BAD_REQUEST a_UNAVAILABLE a_LOCK_HELD a_LOCK_NOT_HELD a_NOT_OPENED_FOR_USE a_SESSION_EXPIRED a_NO_MASTER a_WRONG_EPOCH a_INVALID_SEQUENCER a_POISONED a_WITHDRAWN a_MEMBERSHIP_REFUSED a_PERMISSION_DENIED : Addr} (G : OwnG Z a__VALUES a_NO_SUCH_NODE a_NO_SUCH_CELL a_NODE_DELETED a_INVALID_NAME a_EXISTS a_NOT_EMPTY a_NOT_A_FILE a_NOT_A_DIRECTORY a_GENERATION_MISMATCH a_TOO_LARGE a_ROOT_NOT_DELETABLE a_INVALID_HANDLE a_BAD_REQUEST a_UNAVAILABLE a_LOCK_HELD a_LOCK_NOT_HELD a_NOT_OPENED_FOR_USE a_SESSION_EXPIRED a_NO_MASTER a_WRONG_EPOCH a_INVALID_SEQUENCER a_POISONED a_WITHDRAWN a_MEMBERSHIP_REFUSED a_PERMISSION_DENIED) : Sta Z Z.heap "com/example/portunus/portunus/model/ErrorCode" "NOT_OPENED_FOR_USE" "Lcom/example/portunus/portunus/model/ErrorCode;" (.ref a_NOT_OPENED_FOR_USE) := G.2.2.2.2.2.2.2.2.2.2.2.2.2.2.2.2.2.2.2.2.2.2.2.2.2.2.2.2.2.2.2.2.2.2.1
theorem g_E_NOT_OPENED_FOR_USE {Z : State} {a__VALUES a_NO_SUCH_NODE a_NO_SUCH_CELL a_NODE_DELETED a_INVALID_NAME a_EXISTS a_NOT_EMPTY a_NOT_A_FILE a_NOT_A_DIRECTORY a_GENERATION_MISMATCH a_TOO_LARGE a_ROOT_NOT_DELETABLE a_INVALID_HANDLE a_BAD_REQUEST a_UNAVAILABLE a_LOCK_HELD a_LOCK_NOT_HELD a_NOT_OPENED_FOR_USE a_SESSION_EXPIRED a_NO_MASTER a_WRONG_EPOCH a_INVALID_SEQUENCER a_POISONED a_WITHDRAWN a_MEMBERSHIP_REFUSED a_PERMISSION_DENIED : Addr} (G : OwnG Z a__VALUES a_NO_SUCH_NODE a_NO_SUCH_CELL a_NODE_DELETED a_INVALID_NAME a_EXISTS a_NOT_EMPTY a_NOT_A_FILE a_NOT_A_DIRECTORY a_GENERATION_MISMATCH a_TOO_LARGE a_ROOT_NOT_DELETABLE a_INVALID_HANDLE a_BAD_REQUEST a_UNAVAILABLE a_LOCK_HELD a_LOCK_NOT_HELD a_NOT_OPENED_FOR_USE a_SESSION_EXPIRED a_NO_MASTER a_WRONG_EPOCH a_INVALID_SEQUENCER a_POISONED a_WITHDRAWN a_MEMBERSHIP_REFUSED a_PERMISSION_DENIED) : Exa Z Z.heap a_NOT_OPENED_FOR_USE "com/example/portunus/portunus/model/ErrorCode" := G.2.2.2.2.2.2.2.2.2.2.2.2.2.2.2.2.2.2.2.2.2.2.2.2.2.2.2.2.2.2.2.2.2.2.2.1
theorem g_S_SESSION_EXPIRED {Z : State} {a__VALUES a_NO_SUCH_NODE a_NO_SUCH_CELL a_NODE_DELETED a_INVALID_NAME a_EXISTS a_NOT_EMPTY a_NOT_A_FILE a_NOT_A_DIRECTORY a_GENERATION_MISMATCH a_TOO_LARGE a_ROOT_NOT_DELETABLE a_INVALID_HANDLE a_BAD_REQUEST a_UNAVAILABLE a_LOCK_HELD a_LOCK_NOT_HELD a_NOT_OPENED_FOR_USE a_SESSION_EXPIRED a_NO_MASTER a_WRONG_EPOCH a_INVALID_SEQUENCER a_POISONED a_WITHDRAWN a_MEMBERSHIP_REFUSED a_PERMISSION_DENIED : Addr} (G : OwnG Z a__VALUES a_NO_SUCH_NODE a_NO_SUCH_CELL a_NODE_DELETED a_INVALID_NAME a_EXISTS a_NOT_EMPTY a_NOT_A_FILE a_NOT_A_DIRECTORY a_GENERATION_MISMATCH a_TOO_LARGE a_ROOT_NOT_DELETABLE a_INVALID_HANDLE a_BAD_REQUEST a_UNAVAILABLE a_LOCK_HELD a_LOCK_NOT_HELD a_NOT_OPENED_FOR_USE a_SESSION_EXPIRED a_NO_MASTER a_WRONG_EPOCH a_INVALID_SEQUENCER a_POISONED a_WITHDRAWN a_MEMBERSHIP_REFUSED a_PERMISSION_DENIED) : Sta Z Z.heap "com/example/portunus/portunus/model/ErrorCode" "SESSION_EXPIRED" "Lcom/example/portunus/portunus/model/ErrorCode;" (.ref a_SESSION_EXPIRED) := G.2.2.2.2.2.2.2.2.2.2.2.2.2.2.2.2.2.2.2.2.2.2.2.2.2.2.2.2.2.2.2.2.2.2.2.2.1
theorem g_E_SESSION_EXPIRED {Z : State} {a__VALUES a_NO_SUCH_NODE a_NO_SUCH_CELL a_NODE_DELETED a_INVALID_NAME a_EXISTS a_NOT_EMPTY a_NOT_A_FILE a_NOT_A_DIRECTORY a_GENERATION_MISMATCH a_TOO_LARGE a_ROOT_NOT_DELETABLE a_INVALID_HANDLE a_BAD_REQUEST a_UNAVAILABLE a_LOCK_HELD a_LOCK_NOT_HELD a_NOT_OPENED_FOR_USE a_SESSION_EXPIRED a_NO_MASTER a_WRONG_EPOCH a_INVALID_SEQUENCER a_POISONED a_WITHDRAWN a_MEMBERSHIP_REFUSED a_PERMISSION_DENIED : Addr} (G : OwnG Z a__VALUES a_NO_SUCH_NODE a_NO_SUCH_CELL a_NODE_DELETED a_INVALID_NAME a_EXISTS a_NOT_EMPTY a_NOT_A_FILE a_NOT_A_DIRECTORY a_GENERATION_MISMATCH a_TOO_LARGE a_ROOT_NOT_DELETABLE a_INVALID_HANDLE a_BAD_REQUEST a_UNAVAILABLE a_LOCK_HELD a_LOCK_NOT_HELD a_NOT_OPENED_FOR_USE a_SESSION_EXPIRED a_NO_MASTER a_WRONG_EPOCH a_INVALID_SEQUENCER a_POISONED a_WITHDRAWN a_MEMBERSHIP_REFUSED a_PERMISSION_DENIED) : Exa Z Z.heap a_SESSION_EXPIRED "com/example/portunus/portunus/model/ErrorCode" := G.2.2.2.2.2.2.2.2.2.2.2.2.2.2.2.2.2.2.2.2.2.2.2.2.2.2.2.2.2.2.2.2.2.2.2.2.2.1
theorem g_S_NO_MASTER {Z : State} {a__VALUES a_NO_SUCH_NODE a_NO_SUCH_CELL a_NODE_DELETED a_INVALID_NAME a_EXISTS a_NOT_EMPTY a_NOT_A_FILE a_NOT_A_DIRECTORY a_GENERATION_MISMATCH a_TOO_LARGE a_ROOT_NOT_DELETABLE a_INVALID_HANDLE a_BAD_REQUEST a_UNAVAILABLE a_LOCK_HELD a_LOCK_NOT_HELD a_NOT_OPENED_FOR_USE a_SESSION_EXPIRED a_NO_MASTER a_WRONG_EPOCH a_INVALID_SEQUENCER a_POISONED a_WITHDRAWN a_MEMBERSHIP_REFUSED a_PERMISSION_DENIED : Addr} (G : OwnG Z a__VALUES a_NO_SUCH_NODE a_NO_SUCH_CELL a_NODE_DELETED a_INVALID_NAME a_EXISTS a_NOT_EMPTY a_NOT_A_FILE a_NOT_A_DIRECTORY a_GENERATION_MISMATCH a_TOO_LARGE a_ROOT_NOT_DELETABLE a_INVALID_HANDLE a_BAD_REQUEST a_UNAVAILABLE a_LOCK_HELD a_LOCK_NOT_HELD a_NOT_OPENED_FOR_USE a_SESSION_EXPIRED a_NO_MASTER a_WRONG_EPOCH a_INVALID_SEQUENCER a_POISONED a_WITHDRAWN a_MEMBERSHIP_REFUSED a_PERMISSION_DENIED) : Sta Z Z.heap "com/example/portunus/portunus/model/ErrorCode" "NO_MASTER" "Lcom/example/portunus/portunus/model/ErrorCode;" (.ref a_NO_MASTER) := G.2.2.2.2.2.2.2.2.2.2.2.2.2.2.2.2.2.2.2.2.2.2.2.2.2.2.2.2.2.2.2.2.2.2.2.2.2.2.1
theorem g_E_NO_MASTER {Z : State} {a__VALUES a_NO_SUCH_NODE a_NO_SUCH_CELL a_NODE_DELETED a_INVALID_NAME a_EXISTS a_NOT_EMPTY a_NOT_A_FILE a_NOT_A_DIRECTORY a_GENERATION_MISMATCH a_TOO_LARGE a_ROOT_NOT_DELETABLE a_INVALID_HANDLE a_BAD_REQUEST a_UNAVAILABLE a_LOCK_HELD a_LOCK_NOT_HELD a_NOT_OPENED_FOR_USE a_SESSION_EXPIRED a_NO_MASTER a_WRONG_EPOCH a_INVALID_SEQUENCER a_POISONED a_WITHDRAWN a_MEMBERSHIP_REFUSED a_PERMISSION_DENIED : Addr} (G : OwnG Z a__VALUES a_NO_SUCH_NODE a_NO_SUCH_CELL a_NODE_DELETED a_INVALID_NAME a_EXISTS a_NOT_EMPTY a_NOT_A_FILE a_NOT_A_DIRECTORY a_GENERATION_MISMATCH a_TOO_LARGE a_ROOT_NOT_DELETABLE a_INVALID_HANDLE a_BAD_REQUEST a_UNAVAILABLE a_LOCK_HELD a_LOCK_NOT_HELD a_NOT_OPENED_FOR_USE a_SESSION_EXPIRED a_NO_MASTER a_WRONG_EPOCH a_INVALID_SEQUENCER a_POISONED a_WITHDRAWN a_MEMBERSHIP_REFUSED a_PERMISSION_DENIED) : Exa Z Z.heap a_NO_MASTER "com/example/portunus/portunus/model/ErrorCode" := G.2.2.2.2.2.2.2.2.2.2.2.2.2.2.2.2.2.2.2.2.2.2.2.2.2.2.2.2.2.2.2.2.2.2.2.2.2.2.2.1
theorem g_S_WRONG_EPOCH {Z : State} {a__VALUES a_NO_SUCH_NODE a_NO_SUCH_CELL a_NODE_DELETED a_INVALID_NAME a_EXISTS a_NOT_EMPTY a_NOT_A_FILE a_NOT_A_DIRECTORY a_GENERATION_MISMATCH a_TOO_LARGE a_ROOT_NOT_DELETABLE a_INVALID_HANDLE a_BAD_REQUEST a_UNAVAILABLE a_LOCK_HELD a_LOCK_NOT_HELD a_NOT_OPENED_FOR_USE a_SESSION_EXPIRED a_NO_MASTER a_WRONG_EPOCH a_INVALID_SEQUENCER a_POISONED a_WITHDRAWN a_MEMBERSHIP_REFUSED a_PERMISSION_DENIED : Addr} (G : OwnG Z a__VALUES a_NO_SUCH_NODE a_NO_SUCH_CELL a_NODE_DELETED a_INVALID_NAME a_EXISTS a_NOT_EMPTY a_NOT_A_FILE a_NOT_A_DIRECTORY a_GENERATION_MISMATCH a_TOO_LARGE a_ROOT_NOT_DELETABLE a_INVALID_HANDLE a_BAD_REQUEST a_UNAVAILABLE a_LOCK_HELD a_LOCK_NOT_HELD a_NOT_OPENED_FOR_USE a_SESSION_EXPIRED a_NO_MASTER a_WRONG_EPOCH a_INVALID_SEQUENCER a_POISONED a_WITHDRAWN a_MEMBERSHIP_REFUSED a_PERMISSION_DENIED) : Sta Z Z.heap "com/example/portunus/portunus/model/ErrorCode" "WRONG_EPOCH" "Lcom/example/portunus/portunus/model/ErrorCode;" (.ref a_WRONG_EPOCH) := G.2.2.2.2.2.2.2.2.2.2.2.2.2.2.2.2.2.2.2.2.2.2.2.2.2.2.2.2.2.2.2.2.2.2.2.2.2.2.2.2.1
theorem g_E_WRONG_EPOCH {Z : State} {a__VALUES a_NO_SUCH_NODE a_NO_SUCH_CELL a_NODE_DELETED a_INVALID_NAME a_EXISTS a_NOT_EMPTY a_NOT_A_FILE a_NOT_A_DIRECTORY a_GENERATION_MISMATCH a_TOO_LARGE a_ROOT_NOT_DELETABLE a_INVALID_HANDLE a_BAD_REQUEST a_UNAVAILABLE a_LOCK_HELD a_LOCK_NOT_HELD a_NOT_OPENED_FOR_USE a_SESSION_EXPIRED a_NO_MASTER a_WRONG_EPOCH a_INVALID_SEQUENCER a_POISONED a_WITHDRAWN a_MEMBERSHIP_REFUSED a_PERMISSION_DENIED : Addr} (G : OwnG Z a__VALUES a_NO_SUCH_NODE a_NO_SUCH_CELL a_NODE_DELETED a_INVALID_NAME a_EXISTS a_NOT_EMPTY a_NOT_A_FILE a_NOT_A_DIRECTORY a_GENERATION_MISMATCH a_TOO_LARGE a_ROOT_NOT_DELETABLE a_INVALID_HANDLE a_BAD_REQUEST a_UNAVAILABLE a_LOCK_HELD a_LOCK_NOT_HELD a_NOT_OPENED_FOR_USE a_SESSION_EXPIRED a_NO_MASTER a_WRONG_EPOCH a_INVALID_SEQUENCER a_POISONED a_WITHDRAWN a_MEMBERSHIP_REFUSED a_PERMISSION_DENIED) : Exa Z Z.heap a_WRONG_EPOCH "com/example/portunus/portunus/model/ErrorCode" := G.2.2.2.2.2.2.2.2.2.2.2.2.2.2.2.2.2.2.2.2.2.2.2.2.2.2.2.2.2.2.2.2.2.2.2.2.2.2.2.2.2.1
theorem g_S_INVALID_SEQUENCER {Z : State} {a__VALUES a_NO_SUCH_NODE a_NO_SUCH_CELL a_NODE_DELETED a_INVALID_NAME a_EXISTS a_NOT_EMPTY a_NOT_A_FILE a_NOT_A_DIRECTORY a_GENERATION_MISMATCH a_TOO_LARGE a_ROOT_NOT_DELETABLE a_INVALID_HANDLE a_BAD_REQUEST a_UNAVAILABLE a_LOCK_HELD a_LOCK_NOT_HELD a_NOT_OPENED_FOR_USE a_SESSION_EXPIRED a_NO_MASTER a_WRONG_EPOCH a_INVALID_SEQUENCER a_POISONED a_WITHDRAWN a_MEMBERSHIP_REFUSED a_PERMISSION_DENIED : Addr} (G : OwnG Z a__VALUES a_NO_SUCH_NODE a_NO_SUCH_CELL a_NODE_DELETED a_INVALID_NAME a_EXISTS a_NOT_EMPTY a_NOT_A_FILE a_NOT_A_DIRECTORY a_GENERATION_MISMATCH a_TOO_LARGE a_ROOT_NOT_DELETABLE a_INVALID_HANDLE a_BAD_REQUEST a_UNAVAILABLE a_LOCK_HELD a_LOCK_NOT_HELD a_NOT_OPENED_FOR_USE a_SESSION_EXPIRED a_NO_MASTER a_WRONG_EPOCH a_INVALID_SEQUENCER a_POISONED a_WITHDRAWN a_MEMBERSHIP_REFUSED a_PERMISSION_DENIED) : Sta Z Z.heap "com/example/portunus/portunus/model/ErrorCode" "INVALID_SEQUENCER" "Lcom/example/portunus/portunus/model/ErrorCode;" (.ref a_INVALID_SEQUENCER) := G.2.2.2.2.2.2.2.2.2.2.2.2.2.2.2.2.2.2.2.2.2.2.2.2.2.2.2.2.2.2.2.2.2.2.2.2.2.2.2.2.2.2.1
theorem g_E_INVALID_SEQUENCER {Z : State} {a__VALUES a_NO_SUCH_NODE a_NO_SUCH_CELL a_NODE_DELETED a_INVALID_NAME a_EXISTS a_NOT_EMPTY a_NOT_A_FILE a_NOT_A_DIRECTORY a_GENERATION_MISMATCH a_TOO_LARGE a_ROOT_NOT_DELETABLE a_INVALID_HANDLE a_BAD_REQUEST a_UNAVAILABLE a_LOCK_HELD a_LOCK_NOT_HELD a_NOT_OPENED_FOR_USE a_SESSION_EXPIRED a_NO_MASTER a_WRONG_EPOCH a_INVALID_SEQUENCER a_POISONED a_WITHDRAWN a_MEMBERSHIP_REFUSED a_PERMISSION_DENIED : Addr} (G : OwnG Z a__VALUES a_NO_SUCH_NODE a_NO_SUCH_CELL a_NODE_DELETED a_INVALID_NAME a_EXISTS a_NOT_EMPTY a_NOT_A_FILE a_NOT_A_DIRECTORY a_GENERATION_MISMATCH a_TOO_LARGE a_ROOT_NOT_DELETABLE a_INVALID_HANDLE a_BAD_REQUEST a_UNAVAILABLE a_LOCK_HELD a_LOCK_NOT_HELD a_NOT_OPENED_FOR_USE a_SESSION_EXPIRED a_NO_MASTER a_WRONG_EPOCH a_INVALID_SEQUENCER a_POISONED a_WITHDRAWN a_MEMBERSHIP_REFUSED a_PERMISSION_DENIED) : Exa Z Z.heap a_INVALID_SEQUENCER "com/example/portunus/portunus/model/ErrorCode" := G.2.2.2.2.2.2.2.2.2.2.2.2.2.2.2.2.2.2.2.2.2.2.2.2.2.2.2.2.2.2.2.2.2.2.2.2.2.2.2.2.2.2.2.1
theorem g_S_POISONED {Z : State} {a__VALUES a_NO_SUCH_NODE a_NO_SUCH_CELL a_NODE_DELETED a_INVALID_NAME a_EXISTS a_NOT_EMPTY a_NOT_A_FILE a_NOT_A_DIRECTORY a_GENERATION_MISMATCH a_TOO_LARGE a_ROOT_NOT_DELETABLE a_INVALID_HANDLE a_BAD_REQUEST a_UNAVAILABLE a_LOCK_HELD a_LOCK_NOT_HELD a_NOT_OPENED_FOR_USE a_SESSION_EXPIRED a_NO_MASTER a_WRONG_EPOCH a_INVALID_SEQUENCER a_POISONED a_WITHDRAWN a_MEMBERSHIP_REFUSED a_PERMISSION_DENIED : Addr} (G : OwnG Z a__VALUES a_NO_SUCH_NODE a_NO_SUCH_CELL a_NODE_DELETED a_INVALID_NAME a_EXISTS a_NOT_EMPTY a_NOT_A_FILE a_NOT_A_DIRECTORY a_GENERATION_MISMATCH a_TOO_LARGE a_ROOT_NOT_DELETABLE a_INVALID_HANDLE a_BAD_REQUEST a_UNAVAILABLE a_LOCK_HELD a_LOCK_NOT_HELD a_NOT_OPENED_FOR_USE a_SESSION_EXPIRED a_NO_MASTER a_WRONG_EPOCH a_INVALID_SEQUENCER a_POISONED a_WITHDRAWN a_MEMBERSHIP_REFUSED a_PERMISSION_DENIED) : Sta Z Z.heap "com/example/portunus/portunus/model/ErrorCode" "POISONED" "Lcom/example/portunus/portunus/model/ErrorCode;" (.ref a_POISONED) := G.2.2.2.2.2.2.2.2.2.2.2.2.2.2.2.2.2.2.2.2.2.2.2.2.2.2.2.2.2.2.2.2.2.2.2.2.2.2.2.2.2.2.2.2.1
theorem g_E_POISONED {Z : State} {a__VALUES a_NO_SUCH_NODE a_NO_SUCH_CELL a_NODE_DELETED a_INVALID_NAME a_EXISTS a_NOT_EMPTY a_NOT_A_FILE a_NOT_A_DIRECTORY a_GENERATION_MISMATCH a_TOO_LARGE a_ROOT_NOT_DELETABLE a_INVALID_HANDLE a_BAD_REQUEST a_UNAVAILABLE a_LOCK_HELD a_LOCK_NOT_HELD a_NOT_OPENED_FOR_USE a_SESSION_EXPIRED a_NO_MASTER a_WRONG_EPOCH a_INVALID_SEQUENCER a_POISONED a_WITHDRAWN a_MEMBERSHIP_REFUSED a_PERMISSION_DENIED : Addr} (G : OwnG Z a__VALUES a_NO_SUCH_NODE a_NO_SUCH_CELL a_NODE_DELETED a_INVALID_NAME a_EXISTS a_NOT_EMPTY a_NOT_A_FILE a_NOT_A_DIRECTORY a_GENERATION_MISMATCH a_TOO_LARGE a_ROOT_NOT_DELETABLE a_INVALID_HANDLE a_BAD_REQUEST a_UNAVAILABLE a_LOCK_HELD a_LOCK_NOT_HELD a_NOT_OPENED_FOR_USE a_SESSION_EXPIRED a_NO_MASTER a_WRONG_EPOCH a_INVALID_SEQUENCER a_POISONED a_WITHDRAWN a_MEMBERSHIP_REFUSED a_PERMISSION_DENIED) : Exa Z Z.heap a_POISONED "com/example/portunus/portunus/model/ErrorCode" := G.2.2.2.2.2.2.2.2.2.2.2.2.2.2.2.2.2.2.2.2.2.2.2.2.2.2.2.2.2.2.2.2.2.2.2.2.2.2.2.2.2.2.2.2.2.1
theorem g_S_WITHDRAWN {Z : State} {a__VALUES a_NO_SUCH_NODE a_NO_SUCH_CELL a_NODE_DELETED a_INVALID_NAME a_EXISTS a_NOT_EMPTY a_NOT_A_FILE a_NOT_A_DIRECTORY a_GENERATION_MISMATCH a_TOO_LARGE a_ROOT_NOT_DELETABLE a_INVALID_HANDLE a_BAD_REQUEST a_UNAVAILABLE a_LOCK_HELD a_LOCK_NOT_HELD a_NOT_OPENED_FOR_USE a_SESSION_EXPIRED a_NO_MASTER a_WRONG_EPOCH a_INVALID_SEQUENCER a_POISONED a_WITHDRAWN a_MEMBERSHIP_REFUSED a_PERMISSION_DENIED : Addr} (G : OwnG Z a__VALUES a_NO_SUCH_NODE a_NO_SUCH_CELL a_NODE_DELETED a_INVALID_NAME a_EXISTS a_NOT_EMPTY a_NOT_A_FILE a_NOT_A_DIRECTORY a_GENERATION_MISMATCH a_TOO_LARGE a_ROOT_NOT_DELETABLE a_INVALID_HANDLE a_BAD_REQUEST a_UNAVAILABLE a_LOCK_HELD a_LOCK_NOT_HELD a_NOT_OPENED_FOR_USE a_SESSION_EXPIRED a_NO_MASTER a_WRONG_EPOCH a_INVALID_SEQUENCER a_POISONED a_WITHDRAWN a_MEMBERSHIP_REFUSED a_PERMISSION_DENIED) : Sta Z Z.heap "com/example/portunus/portunus/model/ErrorCode" "WITHDRAWN" "Lcom/example/portunus/portunus/model/ErrorCode;" (.ref a_WITHDRAWN) := G.2.2.2.2.2.2.2.2.2.2.2.2.2.2.2.2.2.2.2.2.2.2.2.2.2.2.2.2.2.2.2.2.2.2.2.2.2.2.2.2.2.2.2.2.2.2.1
theorem g_E_WITHDRAWN {Z : State} {a__VALUES a_NO_SUCH_NODE a_NO_SUCH_CELL a_NODE_DELETED a_INVALID_NAME a_EXISTS a_NOT_EMPTY a_NOT_A_FILE a_NOT_A_DIRECTORY a_GENERATION_MISMATCH a_TOO_LARGE a_ROOT_NOT_DELETABLE a_INVALID_HANDLE a_BAD_REQUEST a_UNAVAILABLE a_LOCK_HELD a_LOCK_NOT_HELD a_NOT_OPENED_FOR_USE a_SESSION_EXPIRED a_NO_MASTER a_WRONG_EPOCH a_INVALID_SEQUENCER a_POISONED a_WITHDRAWN a_MEMBERSHIP_REFUSED a_PERMISSION_DENIED : Addr} (G : OwnG Z a__VALUES a_NO_SUCH_NODE a_NO_SUCH_CELL a_NODE_DELETED a_INVALID_NAME a_EXISTS a_NOT_EMPTY a_NOT_A_FILE a_NOT_A_DIRECTORY a_GENERATION_MISMATCH a_TOO_LARGE a_ROOT_NOT_DELETABLE a_INVALID_HANDLE a_BAD_REQUEST a_UNAVAILABLE a_LOCK_HELD a_LOCK_NOT_HELD a_NOT_OPENED_FOR_USE a_SESSION_EXPIRED a_NO_MASTER a_WRONG_EPOCH a_INVALID_SEQUENCER a_POISONED a_WITHDRAWN a_MEMBERSHIP_REFUSED a_PERMISSION_DENIED) : Exa Z Z.heap a_WITHDRAWN "com/example/portunus/portunus/model/ErrorCode" := G.2.2.2.2.2.2.2.2.2.2.2.2.2.2.2.2.2.2.2.2.2.2.2.2.2.2.2.2.2.2.2.2.2.2.2.2.2.2.2.2.2.2.2.2.2.2.2.1
theorem g_S_MEMBERSHIP_REFUSED {Z : State} {a__VALUES a_NO_SUCH_NODE a_NO_SUCH_CELL a_NODE_DELETED a_INVALID_NAME a_EXISTS a_NOT_EMPTY a_NOT_A_FILE a_NOT_A_DIRECTORY a_GENERATION_MISMATCH a_TOO_LARGE a_ROOT_NOT_DELETABLE a_INVALID_HANDLE a_BAD_REQUEST a_UNAVAILABLE a_LOCK_HELD a_LOCK_NOT_HELD a_NOT_OPENED_FOR_USE a_SESSION_EXPIRED a_NO_MASTER a_WRONG_EPOCH a_INVALID_SEQUENCER a_POISONED a_WITHDRAWN a_MEMBERSHIP_REFUSED a_PERMISSION_DENIED : Addr} (G : OwnG Z a__VALUES a_NO_SUCH_NODE a_NO_SUCH_CELL a_NODE_DELETED a_INVALID_NAME a_EXISTS a_NOT_EMPTY a_NOT_A_FILE a_NOT_A_DIRECTORY a_GENERATION_MISMATCH a_TOO_LARGE a_ROOT_NOT_DELETABLE a_INVALID_HANDLE a_BAD_REQUEST a_UNAVAILABLE a_LOCK_HELD a_LOCK_NOT_HELD a_NOT_OPENED_FOR_USE a_SESSION_EXPIRED a_NO_MASTER a_WRONG_EPOCH a_INVALID_SEQUENCER a_POISONED a_WITHDRAWN a_MEMBERSHIP_REFUSED a_PERMISSION_DENIED) : Sta Z Z.heap "com/example/portunus/portunus/model/ErrorCode" "MEMBERSHIP_REFUSED" "Lcom/example/portunus/portunus/model/ErrorCode;" (.ref a_MEMBERSHIP_REFUSED) := G.2.2.2.2.2.2.2.2.2.2.2.2.2.2.2.2.2.2.2.2.2.2.2.2.2.2.2.2.2.2.2.2.2.2.2.2.2.2.2.2.2.2.2.2.2.2.2.2.1
theorem g_E_MEMBERSHIP_REFUSED {Z : State} {a__VALUES a_NO_SUCH_NODE a_NO_SUCH_CELL a_NODE_DELETED a_INVALID_NAME a_EXISTS a_NOT_EMPTY a_NOT_A_FILE a_NOT_A_DIRECTORY a_GENERATION_MISMATCH a_TOO_LARGE a_ROOT_NOT_DELETABLE a_INVALID_HANDLE a_BAD_REQUEST a_UNAVAILABLE a_LOCK_HELD a_LOCK_NOT_HELD a_NOT_OPENED_FOR_USE a_SESSION_EXPIRED a_NO_MASTER a_WRONG_EPOCH a_INVALID_SEQUENCER a_POISONED a_WITHDRAWN a_MEMBERSHIP_REFUSED a_PERMISSION_DENIED : Addr} (G : OwnG Z a__VALUES a_NO_SUCH_NODE a_NO_SUCH_CELL a_NODE_DELETED a_INVALID_NAME a_EXISTS a_NOT_EMPTY a_NOT_A_FILE a_NOT_A_DIRECTORY a_GENERATION_MISMATCH a_TOO_LARGE a_ROOT_NOT_DELETABLE a_INVALID_HANDLE a_BAD_REQUEST a_UNAVAILABLE a_LOCK_HELD a_LOCK_NOT_HELD a_NOT_OPENED_FOR_USE a_SESSION_EXPIRED a_NO_MASTER a_WRONG_EPOCH a_INVALID_SEQUENCER a_POISONED a_WITHDRAWN a_MEMBERSHIP_REFUSED a_PERMISSION_DENIED) : Exa Z Z.heap a_MEMBERSHIP_REFUSED "com/example/portunus/portunus/model/ErrorCode" := G.2.2.2.2.2.2.2.2.2.2.2.2.2.2.2.2.2.2.2.2.2.2.2.2.2.2.2.2.2.2.2.2.2.2.2.2.2.2.2.2.2.2.2.2.2.2.2.2.2.1
theorem g_S_PERMISSION_DENIED {Z : State} {a__VALUES a_NO_SUCH_NODE a_NO_SUCH_CELL a_NODE_DELETED a_INVALID_NAME a_EXISTS a_NOT_EMPTY a_NOT_A_FILE a_NOT_A_DIRECTORY a_GENERATION_MISMATCH a_TOO_LARGE a_ROOT_NOT_DELETABLE a_INVALID_HANDLE a_BAD_REQUEST a_UNAVAILABLE a_LOCK_HELD a_LOCK_NOT_HELD a_NOT_OPENED_FOR_USE a_SESSION_EXPIRED a_NO_MASTER a_WRONG_EPOCH a_INVALID_SEQUENCER a_POISONED a_WITHDRAWN a_MEMBERSHIP_REFUSED a_PERMISSION_DENIED : Addr} (G : OwnG Z a__VALUES a_NO_SUCH_NODE a_NO_SUCH_CELL a_NODE_DELETED a_INVALID_NAME a_EXISTS a_NOT_EMPTY a_NOT_A_FILE a_NOT_A_DIRECTORY a_GENERATION_MISMATCH a_TOO_LARGE a_ROOT_NOT_DELETABLE a_INVALID_HANDLE a_BAD_REQUEST a_UNAVAILABLE a_LOCK_HELD a_LOCK_NOT_HELD a_NOT_OPENED_FOR_USE a_SESSION_EXPIRED a_NO_MASTER a_WRONG_EPOCH a_INVALID_SEQUENCER a_POISONED a_WITHDRAWN a_MEMBERSHIP_REFUSED a_PERMISSION_DENIED) : Sta Z Z.heap "com/example/portunus/portunus/model/ErrorCode" "PERMISSION_DENIED" "Lcom/example/portunus/portunus/model/ErrorCode;" (.ref a_PERMISSION_DENIED) := G.2.2.2.2.2.2.2.2.2.2.2.2.2.2.2.2.2.2.2.2.2.2.2.2.2.2.2.2.2.2.2.2.2.2.2.2.2.2.2.2.2.2.2.2.2.2.2.2.2.2.1
theorem g_E_PERMISSION_DENIED {Z : State} {a__VALUES a_NO_SUCH_NODE a_NO_SUCH_CELL a_NODE_DELETED a_INVALID_NAME a_EXISTS a_NOT_EMPTY a_NOT_A_FILE a_NOT_A_DIRECTORY a_GENERATION_MISMATCH a_TOO_LARGE a_ROOT_NOT_DELETABLE a_INVALID_HANDLE a_BAD_REQUEST a_UNAVAILABLE a_LOCK_HELD a_LOCK_NOT_HELD a_NOT_OPENED_FOR_USE a_SESSION_EXPIRED a_NO_MASTER a_WRONG_EPOCH a_INVALID_SEQUENCER a_POISONED a_WITHDRAWN a_MEMBERSHIP_REFUSED a_PERMISSION_DENIED : Addr} (G : OwnG Z a__VALUES a_NO_SUCH_NODE a_NO_SUCH_CELL a_NODE_DELETED a_INVALID_NAME a_EXISTS a_NOT_EMPTY a_NOT_A_FILE a_NOT_A_DIRECTORY a_GENERATION_MISMATCH a_TOO_LARGE a_ROOT_NOT_DELETABLE a_INVALID_HANDLE a_BAD_REQUEST a_UNAVAILABLE a_LOCK_HELD a_LOCK_NOT_HELD a_NOT_OPENED_FOR_USE a_SESSION_EXPIRED a_NO_MASTER a_WRONG_EPOCH a_INVALID_SEQUENCER a_POISONED a_WITHDRAWN a_MEMBERSHIP_REFUSED a_PERMISSION_DENIED) : Exa Z Z.heap a_PERMISSION_DENIED "com/example/portunus/portunus/model/ErrorCode" := G.2.2.2.2.2.2.2.2.2.2.2.2.2.2.2.2.2.2.2.2.2.2.2.2.2.2.2.2.2.2.2.2.2.2.2.2.2.2.2.2.2.2.2.2.2.2.2.2.2.2.2.1
theorem g_F_NO_SUCH_NODE_code {Z : State} {a__VALUES a_NO_SUCH_NODE a_NO_SUCH_CELL a_NODE_DELETED a_INVALID_NAME a_EXISTS a_NOT_EMPTY a_NOT_A_FILE a_NOT_A_DIRECTORY a_GENERATION_MISMATCH a_TOO_LARGE a_ROOT_NOT_DELETABLE a_INVALID_HANDLE a_BAD_REQUEST a_UNAVAILABLE a_LOCK_HELD a_LOCK_NOT_HELD a_NOT_OPENED_FOR_USE a_SESSION_EXPIRED a_NO_MASTER a_WRONG_EPOCH a_INVALID_SEQUENCER a_POISONED a_WITHDRAWN a_MEMBERSHIP_REFUSED a_PERMISSION_DENIED : Addr} (G : OwnG Z a__VALUES a_NO_SUCH_NODE a_NO_SUCH_CELL a_NODE_DELETED a_INVALID_NAME a_EXISTS a_NOT_EMPTY a_NOT_A_FILE a_NOT_A_DIRECTORY a_GENERATION_MISMATCH a_TOO_LARGE a_ROOT_NOT_DELETABLE a_INVALID_HANDLE a_BAD_REQUEST a_UNAVAILABLE a_LOCK_HELD a_LOCK_NOT_HELD a_NOT_OPENED_FOR_USE a_SESSION_EXPIRED a_NO_MASTER a_WRONG_EPOCH a_INVALID_SEQUENCER a_POISONED a_WITHDRAWN a_MEMBERSHIP_REFUSED a_PERMISSION_DENIED) : Fld Z Z.heap a_NO_SUCH_NODE "com/example/portunus/portunus/model/ErrorCode" "code" "I" (.int (1 : Int32)) := G.2.2.2.2.2.2.2.2.2.2.2.2.2.2.2.2.2.2.2.2.2.2.2.2.2.2.2.2.2.2.2.2.2.2.2.2.2.2.2.2.2.2.2.2.2.2.2.2.2.2.2.2.1
theorem g_F_NO_SUCH_CELL_code {Z : State} {a__VALUES a_NO_SUCH_NODE a_NO_SUCH_CELL a_NODE_DELETED a_INVALID_NAME a_EXISTS a_NOT_EMPTY a_NOT_A_FILE a_NOT_A_DIRECTORY a_GENERATION_MISMATCH a_TOO_LARGE a_ROOT_NOT_DELETABLE a_INVALID_HANDLE a_BAD_REQUEST a_UNAVAILABLE a_LOCK_HELD a_LOCK_NOT_HELD a_NOT_OPENED_FOR_USE a_SESSION_EXPIRED a_NO_MASTER a_WRONG_EPOCH a_INVALID_SEQUENCER a_POISONED a_WITHDRAWN a_MEMBERSHIP_REFUSED a_PERMISSION_DENIED : Addr} (G : OwnG Z a__VALUES a_NO_SUCH_NODE a_NO_SUCH_CELL a_NODE_DELETED a_INVALID_NAME a_EXISTS a_NOT_EMPTY a_NOT_A_FILE a_NOT_A_DIRECTORY a_GENERATION_MISMATCH a_TOO_LARGE a_ROOT_NOT_DELETABLE a_INVALID_HANDLE a_BAD_REQUEST a_UNAVAILABLE a_LOCK_HELD a_LOCK_NOT_HELD a_NOT_OPENED_FOR_USE a_SESSION_EXPIRED a_NO_MASTER a_WRONG_EPOCH a_INVALID_SEQUENCER a_POISONED a_WITHDRAWN a_MEMBERSHIP_REFUSED a_PERMISSION_DENIED) : Fld Z Z.heap a_NO_SUCH_CELL "com/example/portunus/portunus/model/ErrorCode" "code" "I" (.int (2 : Int32)) := G.2.2.2.2.2.2.2.2.2.2.2.2.2.2.2.2.2.2.2.2.2.2.2.2.2.2.2.2.2.2.2.2.2.2.2.2.2.2.2.2.2.2.2.2.2.2.2.2.2.2.2.2.2.1
theorem g_F_NODE_DELETED_code {Z : State} {a__VALUES a_NO_SUCH_NODE a_NO_SUCH_CELL a_NODE_DELETED a_INVALID_NAME a_EXISTS a_NOT_EMPTY a_NOT_A_FILE a_NOT_A_DIRECTORY a_GENERATION_MISMATCH a_TOO_LARGE a_ROOT_NOT_DELETABLE a_INVALID_HANDLE a_BAD_REQUEST a_UNAVAILABLE a_LOCK_HELD a_LOCK_NOT_HELD a_NOT_OPENED_FOR_USE a_SESSION_EXPIRED a_NO_MASTER a_WRONG_EPOCH a_INVALID_SEQUENCER a_POISONED a_WITHDRAWN a_MEMBERSHIP_REFUSED a_PERMISSION_DENIED : Addr} (G : OwnG Z a__VALUES a_NO_SUCH_NODE a_NO_SUCH_CELL a_NODE_DELETED a_INVALID_NAME a_EXISTS a_NOT_EMPTY a_NOT_A_FILE a_NOT_A_DIRECTORY a_GENERATION_MISMATCH a_TOO_LARGE a_ROOT_NOT_DELETABLE a_INVALID_HANDLE a_BAD_REQUEST a_UNAVAILABLE a_LOCK_HELD a_LOCK_NOT_HELD a_NOT_OPENED_FOR_USE a_SESSION_EXPIRED a_NO_MASTER a_WRONG_EPOCH a_INVALID_SEQUENCER a_POISONED a_WITHDRAWN a_MEMBERSHIP_REFUSED a_PERMISSION_DENIED) : Fld Z Z.heap a_NODE_DELETED "com/example/portunus/portunus/model/ErrorCode" "code" "I" (.int (3 : Int32)) := G.2.2.2.2.2.2.2.2.2.2.2.2.2.2.2.2.2.2.2.2.2.2.2.2.2.2.2.2.2.2.2.2.2.2.2.2.2.2.2.2.2.2.2.2.2.2.2.2.2.2.2.2.2.2.1
theorem g_F_INVALID_NAME_code {Z : State} {a__VALUES a_NO_SUCH_NODE a_NO_SUCH_CELL a_NODE_DELETED a_INVALID_NAME a_EXISTS a_NOT_EMPTY a_NOT_A_FILE a_NOT_A_DIRECTORY a_GENERATION_MISMATCH a_TOO_LARGE a_ROOT_NOT_DELETABLE a_INVALID_HANDLE a_BAD_REQUEST a_UNAVAILABLE a_LOCK_HELD a_LOCK_NOT_HELD a_NOT_OPENED_FOR_USE a_SESSION_EXPIRED a_NO_MASTER a_WRONG_EPOCH a_INVALID_SEQUENCER a_POISONED a_WITHDRAWN a_MEMBERSHIP_REFUSED a_PERMISSION_DENIED : Addr} (G : OwnG Z a__VALUES a_NO_SUCH_NODE a_NO_SUCH_CELL a_NODE_DELETED a_INVALID_NAME a_EXISTS a_NOT_EMPTY a_NOT_A_FILE a_NOT_A_DIRECTORY a_GENERATION_MISMATCH a_TOO_LARGE a_ROOT_NOT_DELETABLE a_INVALID_HANDLE a_BAD_REQUEST a_UNAVAILABLE a_LOCK_HELD a_LOCK_NOT_HELD a_NOT_OPENED_FOR_USE a_SESSION_EXPIRED a_NO_MASTER a_WRONG_EPOCH a_INVALID_SEQUENCER a_POISONED a_WITHDRAWN a_MEMBERSHIP_REFUSED a_PERMISSION_DENIED) : Fld Z Z.heap a_INVALID_NAME "com/example/portunus/portunus/model/ErrorCode" "code" "I" (.int (4 : Int32)) := G.2.2.2.2.2.2.2.2.2.2.2.2.2.2.2.2.2.2.2.2.2.2.2.2.2.2.2.2.2.2.2.2.2.2.2.2.2.2.2.2.2.2.2.2.2.2.2.2.2.2.2.2.2.2.2.1
theorem g_F_EXISTS_code {Z : State} {a__VALUES a_NO_SUCH_NODE a_NO_SUCH_CELL a_NODE_DELETED a_INVALID_NAME a_EXISTS a_NOT_EMPTY a_NOT_A_FILE a_NOT_A_DIRECTORY a_GENERATION_MISMATCH a_TOO_LARGE a_ROOT_NOT_DELETABLE a_INVALID_HANDLE a_BAD_REQUEST a_UNAVAILABLE a_LOCK_HELD a_LOCK_NOT_HELD a_NOT_OPENED_FOR_USE a_SESSION_EXPIRED a_NO_MASTER a_WRONG_EPOCH a_INVALID_SEQUENCER a_POISONED a_WITHDRAWN a_MEMBERSHIP_REFUSED a_PERMISSION_DENIED : Addr} (G : OwnG Z a__VALUES a_NO_SUCH_NODE a_NO_SUCH_CELL a_NODE_DELETED a_INVALID_NAME a_EXISTS a_NOT_EMPTY a_NOT_A_FILE a_NOT_A_DIRECTORY a_GENERATION_MISMATCH a_TOO_LARGE a_ROOT_NOT_DELETABLE a_INVALID_HANDLE a_BAD_REQUEST a_UNAVAILABLE a_LOCK_HELD a_LOCK_NOT_HELD a_NOT_OPENED_FOR_USE a_SESSION_EXPIRED a_NO_MASTER a_WRONG_EPOCH a_INVALID_SEQUENCER a_POISONED a_WITHDRAWN a_MEMBERSHIP_REFUSED a_PERMISSION_DENIED) : Fld Z Z.heap a_EXISTS "com/example/portunus/portunus/model/ErrorCode" "code" "I" (.int (5 : Int32)) := G.2.2.2.2.2.2.2.2.2.2.2.2.2.2.2.2.2.2.2.2.2.2.2.2.2.2.2.2.2.2.2.2.2.2.2.2.2.2.2.2.2.2.2.2.2.2.2.2.2.2.2.2.2.2.2.2.1
theorem g_F_NOT_EMPTY_code {Z : State} {a__VALUES a_NO_SUCH_NODE a_NO_SUCH_CELL a_NODE_DELETED a_INVALID_NAME a_EXISTS a_NOT_EMPTY a_NOT_A_FILE a_NOT_A_DIRECTORY a_GENERATION_MISMATCH a_TOO_LARGE a_ROOT_NOT_DELETABLE a_INVALID_HANDLE a_BAD_REQUEST a_UNAVAILABLE a_LOCK_HELD a_LOCK_NOT_HELD a_NOT_OPENED_FOR_USE a_SESSION_EXPIRED a_NO_MASTER a_WRONG_EPOCH a_INVALID_SEQUENCER a_POISONED a_WITHDRAWN a_MEMBERSHIP_REFUSED a_PERMISSION_DENIED : Addr} (G : OwnG Z a__VALUES a_NO_SUCH_NODE a_NO_SUCH_CELL a_NODE_DELETED a_INVALID_NAME a_EXISTS a_NOT_EMPTY a_NOT_A_FILE a_NOT_A_DIRECTORY a_GENERATION_MISMATCH a_TOO_LARGE a_ROOT_NOT_DELETABLE a_INVALID_HANDLE a_BAD_REQUEST a_UNAVAILABLE a_LOCK_HELD a_LOCK_NOT_HELD a_NOT_OPENED_FOR_USE a_SESSION_EXPIRED a_NO_MASTER a_WRONG_EPOCH a_INVALID_SEQUENCER a_POISONED a_WITHDRAWN a_MEMBERSHIP_REFUSED a_PERMISSION_DENIED) : Fld Z Z.heap a_NOT_EMPTY "com/example/portunus/portunus/model/ErrorCode" "code" "I" (.int (6 : Int32)) := G.2.2.2.2.2.2.2.2.2.2.2.2.2.2.2.2.2.2.2.2.2.2.2.2.2.2.2.2.2.2.2.2.2.2.2.2.2.2.2.2.2.2.2.2.2.2.2.2.2.2.2.2.2.2.2.2.2.1
theorem g_F_NOT_A_FILE_code {Z : State} {a__VALUES a_NO_SUCH_NODE a_NO_SUCH_CELL a_NODE_DELETED a_INVALID_NAME a_EXISTS a_NOT_EMPTY a_NOT_A_FILE a_NOT_A_DIRECTORY a_GENERATION_MISMATCH a_TOO_LARGE a_ROOT_NOT_DELETABLE a_INVALID_HANDLE a_BAD_REQUEST a_UNAVAILABLE a_LOCK_HELD a_LOCK_NOT_HELD a_NOT_OPENED_FOR_USE a_SESSION_EXPIRED a_NO_MASTER a_WRONG_EPOCH a_INVALID_SEQUENCER a_POISONED a_WITHDRAWN a_MEMBERSHIP_REFUSED a_PERMISSION_DENIED : Addr} (G : OwnG Z a__VALUES a_NO_SUCH_NODE a_NO_SUCH_CELL a_NODE_DELETED a_INVALID_NAME a_EXISTS a_NOT_EMPTY a_NOT_A_FILE a_NOT_A_DIRECTORY a_GENERATION_MISMATCH a_TOO_LARGE a_ROOT_NOT_DELETABLE a_INVALID_HANDLE a_BAD_REQUEST a_UNAVAILABLE a_LOCK_HELD a_LOCK_NOT_HELD a_NOT_OPENED_FOR_USE a_SESSION_EXPIRED a_NO_MASTER a_WRONG_EPOCH a_INVALID_SEQUENCER a_POISONED a_WITHDRAWN a_MEMBERSHIP_REFUSED a_PERMISSION_DENIED) : Fld Z Z.heap a_NOT_A_FILE "com/example/portunus/portunus/model/ErrorCode" "code" "I" (.int (7 : Int32)) := G.2.2.2.2.2.2.2.2.2.2.2.2.2.2.2.2.2.2.2.2.2.2.2.2.2.2.2.2.2.2.2.2.2.2.2.2.2.2.2.2.2.2.2.2.2.2.2.2.2.2.2.2.2.2.2.2.2.2.1
theorem g_F_NOT_A_DIRECTORY_code {Z : State} {a__VALUES a_NO_SUCH_NODE a_NO_SUCH_CELL a_NODE_DELETED a_INVALID_NAME a_EXISTS a_NOT_EMPTY a_NOT_A_FILE a_NOT_A_DIRECTORY a_GENERATION_MISMATCH a_TOO_LARGE a_ROOT_NOT_DELETABLE a_INVALID_HANDLE a_BAD_REQUEST a_UNAVAILABLE a_LOCK_HELD a_LOCK_NOT_HELD a_NOT_OPENED_FOR_USE a_SESSION_EXPIRED a_NO_MASTER a_WRONG_EPOCH a_INVALID_SEQUENCER a_POISONED a_WITHDRAWN a_MEMBERSHIP_REFUSED a_PERMISSION_DENIED : Addr} (G : OwnG Z a__VALUES a_NO_SUCH_NODE a_NO_SUCH_CELL a_NODE_DELETED a_INVALID_NAME a_EXISTS a_NOT_EMPTY a_NOT_A_FILE a_NOT_A_DIRECTORY a_GENERATION_MISMATCH a_TOO_LARGE a_ROOT_NOT_DELETABLE a_INVALID_HANDLE a_BAD_REQUEST a_UNAVAILABLE a_LOCK_HELD a_LOCK_NOT_HELD a_NOT_OPENED_FOR_USE a_SESSION_EXPIRED a_NO_MASTER a_WRONG_EPOCH a_INVALID_SEQUENCER a_POISONED a_WITHDRAWN a_MEMBERSHIP_REFUSED a_PERMISSION_DENIED) : Fld Z Z.heap a_NOT_A_DIRECTORY "com/example/portunus/portunus/model/ErrorCode" "code" "I" (.int (8 : Int32)) := G.2.2.2.2.2.2.2.2.2.2.2.2.2.2.2.2.2.2.2.2.2.2.2.2.2.2.2.2.2.2.2.2.2.2.2.2.2.2.2.2.2.2.2.2.2.2.2.2.2.2.2.2.2.2.2.2.2.2.2.1
theorem g_F_GENERATION_MISMATCH_code {Z : State} {a__VALUES a_NO_SUCH_NODE a_NO_SUCH_CELL a_NODE_DELETED a_INVALID_NAME a_EXISTS a_NOT_EMPTY a_NOT_A_FILE a_NOT_A_DIRECTORY a_GENERATION_MISMATCH a_TOO_LARGE a_ROOT_NOT_DELETABLE a_INVALID_HANDLE a_BAD_REQUEST a_UNAVAILABLE a_LOCK_HELD a_LOCK_NOT_HELD a_NOT_OPENED_FOR_USE a_SESSION_EXPIRED a_NO_MASTER a_WRONG_EPOCH a_INVALID_SEQUENCER a_POISONED a_WITHDRAWN a_MEMBERSHIP_REFUSED a_PERMISSION_DENIED : Addr} (G : OwnG Z a__VALUES a_NO_SUCH_NODE a_NO_SUCH_CELL a_NODE_DELETED a_INVALID_NAME a_EXISTS a_NOT_EMPTY a_NOT_A_FILE a_NOT_A_DIRECTORY a_GENERATION_MISMATCH a_TOO_LARGE a_ROOT_NOT_DELETABLE a_INVALID_HANDLE a_BAD_REQUEST a_UNAVAILABLE a_LOCK_HELD a_LOCK_NOT_HELD a_NOT_OPENED_FOR_USE a_SESSION_EXPIRED a_NO_MASTER a_WRONG_EPOCH a_INVALID_SEQUENCER a_POISONED a_WITHDRAWN a_MEMBERSHIP_REFUSED a_PERMISSION_DENIED) : Fld Z Z.heap a_GENERATION_MISMATCH "com/example/portunus/portunus/model/ErrorCode" "code" "I" (.int (9 : Int32)) := G.2.2.2.2.2.2.2.2.2.2.2.2.2.2.2.2.2.2.2.2.2.2.2.2.2.2.2.2.2.2.2.2.2.2.2.2.2.2.2.2.2.2.2.2.2.2.2.2.2.2.2.2.2.2.2.2.2.2.2.2.1
theorem g_F_TOO_LARGE_code {Z : State} {a__VALUES a_NO_SUCH_NODE a_NO_SUCH_CELL a_NODE_DELETED a_INVALID_NAME a_EXISTS a_NOT_EMPTY a_NOT_A_FILE a_NOT_A_DIRECTORY a_GENERATION_MISMATCH a_TOO_LARGE a_ROOT_NOT_DELETABLE a_INVALID_HANDLE a_BAD_REQUEST a_UNAVAILABLE a_LOCK_HELD a_LOCK_NOT_HELD a_NOT_OPENED_FOR_USE a_SESSION_EXPIRED a_NO_MASTER a_WRONG_EPOCH a_INVALID_SEQUENCER a_POISONED a_WITHDRAWN a_MEMBERSHIP_REFUSED a_PERMISSION_DENIED : Addr} (G : OwnG Z a__VALUES a_NO_SUCH_NODE a_NO_SUCH_CELL a_NODE_DELETED a_INVALID_NAME a_EXISTS a_NOT_EMPTY a_NOT_A_FILE a_NOT_A_DIRECTORY a_GENERATION_MISMATCH a_TOO_LARGE a_ROOT_NOT_DELETABLE a_INVALID_HANDLE a_BAD_REQUEST a_UNAVAILABLE a_LOCK_HELD a_LOCK_NOT_HELD a_NOT_OPENED_FOR_USE a_SESSION_EXPIRED a_NO_MASTER a_WRONG_EPOCH a_INVALID_SEQUENCER a_POISONED a_WITHDRAWN a_MEMBERSHIP_REFUSED a_PERMISSION_DENIED) : Fld Z Z.heap a_TOO_LARGE "com/example/portunus/portunus/model/ErrorCode" "code" "I" (.int (10 : Int32)) := G.2.2.2.2.2.2.2.2.2.2.2.2.2.2.2.2.2.2.2.2.2.2.2.2.2.2.2.2.2.2.2.2.2.2.2.2.2.2.2.2.2.2.2.2.2.2.2.2.2.2.2.2.2.2.2.2.2.2.2.2.2.1
theorem g_F_ROOT_NOT_DELETABLE_code {Z : State} {a__VALUES a_NO_SUCH_NODE a_NO_SUCH_CELL a_NODE_DELETED a_INVALID_NAME a_EXISTS a_NOT_EMPTY a_NOT_A_FILE a_NOT_A_DIRECTORY a_GENERATION_MISMATCH a_TOO_LARGE a_ROOT_NOT_DELETABLE a_INVALID_HANDLE a_BAD_REQUEST a_UNAVAILABLE a_LOCK_HELD a_LOCK_NOT_HELD a_NOT_OPENED_FOR_USE a_SESSION_EXPIRED a_NO_MASTER a_WRONG_EPOCH a_INVALID_SEQUENCER a_POISONED a_WITHDRAWN a_MEMBERSHIP_REFUSED a_PERMISSION_DENIED : Addr} (G : OwnG Z a__VALUES a_NO_SUCH_NODE a_NO_SUCH_CELL a_NODE_DELETED a_INVALID_NAME a_EXISTS a_NOT_EMPTY a_NOT_A_FILE a_NOT_A_DIRECTORY a_GENERATION_MISMATCH a_TOO_LARGE a_ROOT_NOT_DELETABLE a_INVALID_HANDLE a_BAD_REQUEST a_UNAVAILABLE a_LOCK_HELD a_LOCK_NOT_HELD a_NOT_OPENED_FOR_USE a_SESSION_EXPIRED a_NO_MASTER a_WRONG_EPOCH a_INVALID_SEQUENCER a_POISONED a_WITHDRAWN a_MEMBERSHIP_REFUSED a_PERMISSION_DENIED) : Fld Z Z.heap a_ROOT_NOT_DELETABLE "com/example/portunus/portunus/model/ErrorCode" "code" "I" (.int (11 : Int32)) := G.2.2.2.2.2.2.2.2.2.2.2.2.2.2.2.2.2.2.2.2.2.2.2.2.2.2.2.2.2.2.2.2.2.2.2.2.2.2.2.2.2.2.2.2.2.2.2.2.2.2.2.2.2.2.2.2.2.2.2.2.2.2.1
theorem g_F_INVALID_HANDLE_code {Z : State} {a__VALUES a_NO_SUCH_NODE a_NO_SUCH_CELL a_NODE_DELETED a_INVALID_NAME a_EXISTS a_NOT_EMPTY a_NOT_A_FILE a_NOT_A_DIRECTORY a_GENERATION_MISMATCH a_TOO_LARGE a_ROOT_NOT_DELETABLE a_INVALID_HANDLE a_BAD_REQUEST a_UNAVAILABLE a_LOCK_HELD a_LOCK_NOT_HELD a_NOT_OPENED_FOR_USE a_SESSION_EXPIRED a_NO_MASTER a_WRONG_EPOCH a_INVALID_SEQUENCER a_POISONED a_WITHDRAWN a_MEMBERSHIP_REFUSED a_PERMISSION_DENIED : Addr} (G : OwnG Z a__VALUES a_NO_SUCH_NODE a_NO_SUCH_CELL a_NODE_DELETED a_INVALID_NAME a_EXISTS a_NOT_EMPTY a_NOT_A_FILE a_NOT_A_DIRECTORY a_GENERATION_MISMATCH a_TOO_LARGE a_ROOT_NOT_DELETABLE a_INVALID_HANDLE a_BAD_REQUEST a_UNAVAILABLE a_LOCK_HELD a_LOCK_NOT_HELD a_NOT_OPENED_FOR_USE a_SESSION_EXPIRED a_NO_MASTER a_WRONG_EPOCH a_INVALID_SEQUENCER a_POISONED a_WITHDRAWN a_MEMBERSHIP_REFUSED a_PERMISSION_DENIED) : Fld Z Z.heap a_INVALID_HANDLE "com/example/portunus/portunus/model/ErrorCode" "code" "I" (.int (12 : Int32)) := G.2.2.2.2.2.2.2.2.2.2.2.2.2.2.2.2.2.2.2.2.2.2.2.2.2.2.2.2.2.2.2.2.2.2.2.2.2.2.2.2.2.2.2.2.2.2.2.2.2.2.2.2.2.2.2.2.2.2.2.2.2.2.2.1
theorem g_F_BAD_REQUEST_code {Z : State} {a__VALUES a_NO_SUCH_NODE a_NO_SUCH_CELL a_NODE_DELETED a_INVALID_NAME a_EXISTS a_NOT_EMPTY a_NOT_A_FILE a_NOT_A_DIRECTORY a_GENERATION_MISMATCH a_TOO_LARGE a_ROOT_NOT_DELETABLE a_INVALID_HANDLE a_BAD_REQUEST a_UNAVAILABLE a_LOCK_HELD a_LOCK_NOT_HELD a_NOT_OPENED_FOR_USE a_SESSION_EXPIRED a_NO_MASTER a_WRONG_EPOCH a_INVALID_SEQUENCER a_POISONED a_WITHDRAWN a_MEMBERSHIP_REFUSED a_PERMISSION_DENIED : Addr} (G : OwnG Z a__VALUES a_NO_SUCH_NODE a_NO_SUCH_CELL a_NODE_DELETED a_INVALID_NAME a_EXISTS a_NOT_EMPTY a_NOT_A_FILE a_NOT_A_DIRECTORY a_GENERATION_MISMATCH a_TOO_LARGE a_ROOT_NOT_DELETABLE a_INVALID_HANDLE a_BAD_REQUEST a_UNAVAILABLE a_LOCK_HELD a_LOCK_NOT_HELD a_NOT_OPENED_FOR_USE a_SESSION_EXPIRED a_NO_MASTER a_WRONG_EPOCH a_INVALID_SEQUENCER a_POISONED a_WITHDRAWN a_MEMBERSHIP_REFUSED a_PERMISSION_DENIED) : Fld Z Z.heap a_BAD_REQUEST "com/example/portunus/portunus/model/ErrorCode" "code" "I" (.int (13 : Int32)) := G.2.2.2.2.2.2.2.2.2.2.2.2.2.2.2.2.2.2.2.2.2.2.2.2.2.2.2.2.2.2.2.2.2.2.2.2.2.2.2.2.2.2.2.2.2.2.2.2.2.2.2.2.2.2.2.2.2.2.2.2.2.2.2.2.1
theorem g_F_UNAVAILABLE_code {Z : State} {a__VALUES a_NO_SUCH_NODE a_NO_SUCH_CELL a_NODE_DELETED a_INVALID_NAME a_EXISTS a_NOT_EMPTY a_NOT_A_FILE a_NOT_A_DIRECTORY a_GENERATION_MISMATCH a_TOO_LARGE a_ROOT_NOT_DELETABLE a_INVALID_HANDLE a_BAD_REQUEST a_UNAVAILABLE a_LOCK_HELD a_LOCK_NOT_HELD a_NOT_OPENED_FOR_USE a_SESSION_EXPIRED a_NO_MASTER a_WRONG_EPOCH a_INVALID_SEQUENCER a_POISONED a_WITHDRAWN a_MEMBERSHIP_REFUSED a_PERMISSION_DENIED : Addr} (G : OwnG Z a__VALUES a_NO_SUCH_NODE a_NO_SUCH_CELL a_NODE_DELETED a_INVALID_NAME a_EXISTS a_NOT_EMPTY a_NOT_A_FILE a_NOT_A_DIRECTORY a_GENERATION_MISMATCH a_TOO_LARGE a_ROOT_NOT_DELETABLE a_INVALID_HANDLE a_BAD_REQUEST a_UNAVAILABLE a_LOCK_HELD a_LOCK_NOT_HELD a_NOT_OPENED_FOR_USE a_SESSION_EXPIRED a_NO_MASTER a_WRONG_EPOCH a_INVALID_SEQUENCER a_POISONED a_WITHDRAWN a_MEMBERSHIP_REFUSED a_PERMISSION_DENIED) : Fld Z Z.heap a_UNAVAILABLE "com/example/portunus/portunus/model/ErrorCode" "code" "I" (.int (14 : Int32)) := G.2.2.2.2.2.2.2.2.2.2.2.2.2.2.2.2.2.2.2.2.2.2.2.2.2.2.2.2.2.2.2.2.2.2.2.2.2.2.2.2.2.2.2.2.2.2.2.2.2.2.2.2.2.2.2.2.2.2.2.2.2.2.2.2.2.1
theorem g_F_LOCK_HELD_code {Z : State} {a__VALUES a_NO_SUCH_NODE a_NO_SUCH_CELL a_NODE_DELETED a_INVALID_NAME a_EXISTS a_NOT_EMPTY a_NOT_A_FILE a_NOT_A_DIRECTORY a_GENERATION_MISMATCH a_TOO_LARGE a_ROOT_NOT_DELETABLE a_INVALID_HANDLE a_BAD_REQUEST a_UNAVAILABLE a_LOCK_HELD a_LOCK_NOT_HELD a_NOT_OPENED_FOR_USE a_SESSION_EXPIRED a_NO_MASTER a_WRONG_EPOCH a_INVALID_SEQUENCER a_POISONED a_WITHDRAWN a_MEMBERSHIP_REFUSED a_PERMISSION_DENIED : Addr} (G : OwnG Z a__VALUES a_NO_SUCH_NODE a_NO_SUCH_CELL a_NODE_DELETED a_INVALID_NAME a_EXISTS a_NOT_EMPTY a_NOT_A_FILE a_NOT_A_DIRECTORY a_GENERATION_MISMATCH a_TOO_LARGE a_ROOT_NOT_DELETABLE a_INVALID_HANDLE a_BAD_REQUEST a_UNAVAILABLE a_LOCK_HELD a_LOCK_NOT_HELD a_NOT_OPENED_FOR_USE a_SESSION_EXPIRED a_NO_MASTER a_WRONG_EPOCH a_INVALID_SEQUENCER a_POISONED a_WITHDRAWN a_MEMBERSHIP_REFUSED a_PERMISSION_DENIED) : Fld Z Z.heap a_LOCK_HELD "com/example/portunus/portunus/model/ErrorCode" "code" "I" (.int (15 : Int32)) := G.2.2.2.2.2.2.2.2.2.2.2.2.2.2.2.2.2.2.2.2.2.2.2.2.2.2.2.2.2.2.2.2.2.2.2.2.2.2.2.2.2.2.2.2.2.2.2.2.2.2.2.2.2.2.2.2.2.2.2.2.2.2.2.2.2.2.1
theorem g_F_LOCK_NOT_HELD_code {Z : State} {a__VALUES a_NO_SUCH_NODE a_NO_SUCH_CELL a_NODE_DELETED a_INVALID_NAME a_EXISTS a_NOT_EMPTY a_NOT_A_FILE a_NOT_A_DIRECTORY a_GENERATION_MISMATCH a_TOO_LARGE a_ROOT_NOT_DELETABLE a_INVALID_HANDLE a_BAD_REQUEST a_UNAVAILABLE a_LOCK_HELD a_LOCK_NOT_HELD a_NOT_OPENED_FOR_USE a_SESSION_EXPIRED a_NO_MASTER a_WRONG_EPOCH a_INVALID_SEQUENCER a_POISONED a_WITHDRAWN a_MEMBERSHIP_REFUSED a_PERMISSION_DENIED : Addr} (G : OwnG Z a__VALUES a_NO_SUCH_NODE a_NO_SUCH_CELL a_NODE_DELETED a_INVALID_NAME a_EXISTS a_NOT_EMPTY a_NOT_A_FILE a_NOT_A_DIRECTORY a_GENERATION_MISMATCH a_TOO_LARGE a_ROOT_NOT_DELETABLE a_INVALID_HANDLE a_BAD_REQUEST a_UNAVAILABLE a_LOCK_HELD a_LOCK_NOT_HELD a_NOT_OPENED_FOR_USE a_SESSION_EXPIRED a_NO_MASTER a_WRONG_EPOCH a_INVALID_SEQUENCER a_POISONED a_WITHDRAWN a_MEMBERSHIP_REFUSED a_PERMISSION_DENIED) : Fld Z Z.heap a_LOCK_NOT_HELD "com/example/portunus/portunus/model/ErrorCode" "code" "I" (.int (16 : Int32)) := G.2.2.2.2.2.2.2.2.2.2.2.2.2.2.2.2.2.2.2.2.2.2.2.2.2.2.2.2.2.2.2.2.2.2.2.2.2.2.2.2.2.2.2.2.2.2.2.2.2.2.2.2.2.2.2.2.2.2.2.2.2.2.2.2.2.2.2.1
theorem g_F_NOT_OPENED_FOR_USE_code {Z : State} {a__VALUES a_NO_SUCH_NODE a_NO_SUCH_CELL a_NODE_DELETED a_INVALID_NAME a_EXISTS a_NOT_EMPTY a_NOT_A_FILE a_NOT_A_DIRECTORY a_GENERATION_MISMATCH a_TOO_LARGE a_ROOT_NOT_DELETABLE a_INVALID_HANDLE a_BAD_REQUEST a_UNAVAILABLE a_LOCK_HELD a_LOCK_NOT_HELD a_NOT_OPENED_FOR_USE a_SESSION_EXPIRED a_NO_MASTER a_WRONG_EPOCH a_INVALID_SEQUENCER a_POISONED a_WITHDRAWN a_MEMBERSHIP_REFUSED a_PERMISSION_DENIED : Addr} (G : OwnG Z a__VALUES a_NO_SUCH_NODE a_NO_SUCH_CELL a_NODE_DELETED a_INVALID_NAME a_EXISTS a_NOT_EMPTY a_NOT_A_FILE a_NOT_A_DIRECTORY a_GENERATION_MISMATCH a_TOO_LARGE a_ROOT_NOT_DELETABLE a_INVALID_HANDLE a_BAD_REQUEST a_UNAVAILABLE a_LOCK_HELD a_LOCK_NOT_HELD a_NOT_OPENED_FOR_USE a_SESSION_EXPIRED a_NO_MASTER a_WRONG_EPOCH a_INVALID_SEQUENCER a_POISONED a_WITHDRAWN a_MEMBERSHIP_REFUSED a_PERMISSION_DENIED) : Fld Z Z.heap a_NOT_OPENED_FOR_USE "com/example/portunus/portunus/model/ErrorCode" "code" "I" (.int (17 : Int32)) := G.2.2.2.2.2.2.2.2.2.2.2.2.2.2.2.2.2.2.2.2.2.2.2.2.2.2.2.2.2.2.2.2.2.2.2.2.2.2.2.2.2.2.2.2.2.2.2.2.2.2.2.2.2.2.2.2.2.2.2.2.2.2.2.2.2.2.2.2.1
theorem g_F_SESSION_EXPIRED_code {Z : State} {a__VALUES a_NO_SUCH_NODE a_NO_SUCH_CELL a_NODE_DELETED a_INVALID_NAME a_EXISTS a_NOT_EMPTY a_NOT_A_FILE a_NOT_A_DIRECTORY a_GENERATION_MISMATCH a_TOO_LARGE a_ROOT_NOT_DELETABLE a_INVALID_HANDLE a_BAD_REQUEST a_UNAVAILABLE a_LOCK_HELD a_LOCK_NOT_HELD a_NOT_OPENED_FOR_USE a_SESSION_EXPIRED a_NO_MASTER a_WRONG_EPOCH a_INVALID_SEQUENCER a_POISONED a_WITHDRAWN a_MEMBERSHIP_REFUSED a_PERMISSION_DENIED : Addr} (G : OwnG Z a__VALUES a_NO_SUCH_NODE a_NO_SUCH_CELL a_NODE_DELETED a_INVALID_NAME a_EXISTS a_NOT_EMPTY a_NOT_A_FILE a_NOT_A_DIRECTORY a_GENERATION_MISMATCH a_TOO_LARGE a_ROOT_NOT_DELETABLE a_INVALID_HANDLE a_BAD_REQUEST a_UNAVAILABLE a_LOCK_HELD a_LOCK_NOT_HELD a_NOT_OPENED_FOR_USE a_SESSION_EXPIRED a_NO_MASTER a_WRONG_EPOCH a_INVALID_SEQUENCER a_POISONED a_WITHDRAWN a_MEMBERSHIP_REFUSED a_PERMISSION_DENIED) : Fld Z Z.heap a_SESSION_EXPIRED "com/example/portunus/portunus/model/ErrorCode" "code" "I" (.int (18 : Int32)) := G.2.2.2.2.2.2.2.2.2.2.2.2.2.2.2.2.2.2.2.2.2.2.2.2.2.2.2.2.2.2.2.2.2.2.2.2.2.2.2.2.2.2.2.2.2.2.2.2.2.2.2.2.2.2.2.2.2.2.2.2.2.2.2.2.2.2.2.2.2.1
theorem g_F_NO_MASTER_code {Z : State} {a__VALUES a_NO_SUCH_NODE a_NO_SUCH_CELL a_NODE_DELETED a_INVALID_NAME a_EXISTS a_NOT_EMPTY a_NOT_A_FILE a_NOT_A_DIRECTORY a_GENERATION_MISMATCH a_TOO_LARGE a_ROOT_NOT_DELETABLE a_INVALID_HANDLE a_BAD_REQUEST a_UNAVAILABLE a_LOCK_HELD a_LOCK_NOT_HELD a_NOT_OPENED_FOR_USE a_SESSION_EXPIRED a_NO_MASTER a_WRONG_EPOCH a_INVALID_SEQUENCER a_POISONED a_WITHDRAWN a_MEMBERSHIP_REFUSED a_PERMISSION_DENIED : Addr} (G : OwnG Z a__VALUES a_NO_SUCH_NODE a_NO_SUCH_CELL a_NODE_DELETED a_INVALID_NAME a_EXISTS a_NOT_EMPTY a_NOT_A_FILE a_NOT_A_DIRECTORY a_GENERATION_MISMATCH a_TOO_LARGE a_ROOT_NOT_DELETABLE a_INVALID_HANDLE a_BAD_REQUEST a_UNAVAILABLE a_LOCK_HELD a_LOCK_NOT_HELD a_NOT_OPENED_FOR_USE a_SESSION_EXPIRED a_NO_MASTER a_WRONG_EPOCH a_INVALID_SEQUENCER a_POISONED a_WITHDRAWN a_MEMBERSHIP_REFUSED a_PERMISSION_DENIED) : Fld Z Z.heap a_NO_MASTER "com/example/portunus/portunus/model/ErrorCode" "code" "I" (.int (19 : Int32)) := G.2.2.2.2.2.2.2.2.2.2.2.2.2.2.2.2.2.2.2.2.2.2.2.2.2.2.2.2.2.2.2.2.2.2.2.2.2.2.2.2.2.2.2.2.2.2.2.2.2.2.2.2.2.2.2.2.2.2.2.2.2.2.2.2.2.2.2.2.2.2.1
theorem g_F_WRONG_EPOCH_code {Z : State} {a__VALUES a_NO_SUCH_NODE a_NO_SUCH_CELL a_NODE_DELETED a_INVALID_NAME a_EXISTS a_NOT_EMPTY a_NOT_A_FILE a_NOT_A_DIRECTORY a_GENERATION_MISMATCH a_TOO_LARGE a_ROOT_NOT_DELETABLE a_INVALID_HANDLE a_BAD_REQUEST a_UNAVAILABLE a_LOCK_HELD a_LOCK_NOT_HELD a_NOT_OPENED_FOR_USE a_SESSION_EXPIRED a_NO_MASTER a_WRONG_EPOCH a_INVALID_SEQUENCER a_POISONED a_WITHDRAWN a_MEMBERSHIP_REFUSED a_PERMISSION_DENIED : Addr} (G : OwnG Z a__VALUES a_NO_SUCH_NODE a_NO_SUCH_CELL a_NODE_DELETED a_INVALID_NAME a_EXISTS a_NOT_EMPTY a_NOT_A_FILE a_NOT_A_DIRECTORY a_GENERATION_MISMATCH a_TOO_LARGE a_ROOT_NOT_DELETABLE a_INVALID_HANDLE a_BAD_REQUEST a_UNAVAILABLE a_LOCK_HELD a_LOCK_NOT_HELD a_NOT_OPENED_FOR_USE a_SESSION_EXPIRED a_NO_MASTER a_WRONG_EPOCH a_INVALID_SEQUENCER a_POISONED a_WITHDRAWN a_MEMBERSHIP_REFUSED a_PERMISSION_DENIED) : Fld Z Z.heap a_WRONG_EPOCH "com/example/portunus/portunus/model/ErrorCode" "code" "I" (.int (20 : Int32)) := G.2.2.2.2.2.2.2.2.2.2.2.2.2.2.2.2.2.2.2.2.2.2.2.2.2.2.2.2.2.2.2.2.2.2.2.2.2.2.2.2.2.2.2.2.2.2.2.2.2.2.2.2.2.2.2.2.2.2.2.2.2.2.2.2.2.2.2.2.2.2.2.1
theorem g_F_INVALID_SEQUENCER_code {Z : State} {a__VALUES a_NO_SUCH_NODE a_NO_SUCH_CELL a_NODE_DELETED a_INVALID_NAME a_EXISTS a_NOT_EMPTY a_NOT_A_FILE a_NOT_A_DIRECTORY a_GENERATION_MISMATCH a_TOO_LARGE a_ROOT_NOT_DELETABLE a_INVALID_HANDLE a_BAD_REQUEST a_UNAVAILABLE a_LOCK_HELD a_LOCK_NOT_HELD a_NOT_OPENED_FOR_USE a_SESSION_EXPIRED a_NO_MASTER a_WRONG_EPOCH a_INVALID_SEQUENCER a_POISONED a_WITHDRAWN a_MEMBERSHIP_REFUSED a_PERMISSION_DENIED : Addr} (G : OwnG Z a__VALUES a_NO_SUCH_NODE a_NO_SUCH_CELL a_NODE_DELETED a_INVALID_NAME a_EXISTS a_NOT_EMPTY a_NOT_A_FILE a_NOT_A_DIRECTORY a_GENERATION_MISMATCH a_TOO_LARGE a_ROOT_NOT_DELETABLE a_INVALID_HANDLE a_BAD_REQUEST a_UNAVAILABLE a_LOCK_HELD a_LOCK_NOT_HELD a_NOT_OPENED_FOR_USE a_SESSION_EXPIRED a_NO_MASTER a_WRONG_EPOCH a_INVALID_SEQUENCER a_POISONED a_WITHDRAWN a_MEMBERSHIP_REFUSED a_PERMISSION_DENIED) : Fld Z Z.heap a_INVALID_SEQUENCER "com/example/portunus/portunus/model/ErrorCode" "code" "I" (.int (21 : Int32)) := G.2.2.2.2.2.2.2.2.2.2.2.2.2.2.2.2.2.2.2.2.2.2.2.2.2.2.2.2.2.2.2.2.2.2.2.2.2.2.2.2.2.2.2.2.2.2.2.2.2.2.2.2.2.2.2.2.2.2.2.2.2.2.2.2.2.2.2.2.2.2.2.2.1
theorem g_F_POISONED_code {Z : State} {a__VALUES a_NO_SUCH_NODE a_NO_SUCH_CELL a_NODE_DELETED a_INVALID_NAME a_EXISTS a_NOT_EMPTY a_NOT_A_FILE a_NOT_A_DIRECTORY a_GENERATION_MISMATCH a_TOO_LARGE a_ROOT_NOT_DELETABLE a_INVALID_HANDLE a_BAD_REQUEST a_UNAVAILABLE a_LOCK_HELD a_LOCK_NOT_HELD a_NOT_OPENED_FOR_USE a_SESSION_EXPIRED a_NO_MASTER a_WRONG_EPOCH a_INVALID_SEQUENCER a_POISONED a_WITHDRAWN a_MEMBERSHIP_REFUSED a_PERMISSION_DENIED : Addr} (G : OwnG Z a__VALUES a_NO_SUCH_NODE a_NO_SUCH_CELL a_NODE_DELETED a_INVALID_NAME a_EXISTS a_NOT_EMPTY a_NOT_A_FILE a_NOT_A_DIRECTORY a_GENERATION_MISMATCH a_TOO_LARGE a_ROOT_NOT_DELETABLE a_INVALID_HANDLE a_BAD_REQUEST a_UNAVAILABLE a_LOCK_HELD a_LOCK_NOT_HELD a_NOT_OPENED_FOR_USE a_SESSION_EXPIRED a_NO_MASTER a_WRONG_EPOCH a_INVALID_SEQUENCER a_POISONED a_WITHDRAWN a_MEMBERSHIP_REFUSED a_PERMISSION_DENIED) : Fld Z Z.heap a_POISONED "com/example/portunus/portunus/model/ErrorCode" "code" "I" (.int (22 : Int32)) := G.2.2.2.2.2.2.2.2.2.2.2.2.2.2.2.2.2.2.2.2.2.2.2.2.2.2.2.2.2.2.2.2.2.2.2.2.2.2.2.2.2.2.2.2.2.2.2.2.2.2.2.2.2.2.2.2.2.2.2.2.2.2.2.2.2.2.2.2.2.2.2.2.2.1
theorem g_F_WITHDRAWN_code {Z : State} {a__VALUES a_NO_SUCH_NODE a_NO_SUCH_CELL a_NODE_DELETED a_INVALID_NAME a_EXISTS a_NOT_EMPTY a_NOT_A_FILE a_NOT_A_DIRECTORY a_GENERATION_MISMATCH a_TOO_LARGE a_ROOT_NOT_DELETABLE a_INVALID_HANDLE a_BAD_REQUEST a_UNAVAILABLE a_LOCK_HELD a_LOCK_NOT_HELD a_NOT_OPENED_FOR_USE a_SESSION_EXPIRED a_NO_MASTER a_WRONG_EPOCH a_INVALID_SEQUENCER a_POISONED a_WITHDRAWN a_MEMBERSHIP_REFUSED a_PERMISSION_DENIED : Addr} (G : OwnG Z a__VALUES a_NO_SUCH_NODE a_NO_SUCH_CELL a_NODE_DELETED a_INVALID_NAME a_EXISTS a_NOT_EMPTY a_NOT_A_FILE a_NOT_A_DIRECTORY a_GENERATION_MISMATCH a_TOO_LARGE a_ROOT_NOT_DELETABLE a_INVALID_HANDLE a_BAD_REQUEST a_UNAVAILABLE a_LOCK_HELD a_LOCK_NOT_HELD a_NOT_OPENED_FOR_USE a_SESSION_EXPIRED a_NO_MASTER a_WRONG_EPOCH a_INVALID_SEQUENCER a_POISONED a_WITHDRAWN a_MEMBERSHIP_REFUSED a_PERMISSION_DENIED) : Fld Z Z.heap a_WITHDRAWN "com/example/portunus/portunus/model/ErrorCode" "code" "I" (.int (23 : Int32)) := G.2.2.2.2.2.2.2.2.2.2.2.2.2.2.2.2.2.2.2.2.2.2.2.2.2.2.2.2.2.2.2.2.2.2.2.2.2.2.2.2.2.2.2.2.2.2.2.2.2.2.2.2.2.2.2.2.2.2.2.2.2.2.2.2.2.2.2.2.2.2.2.2.2.2.1
theorem g_F_MEMBERSHIP_REFUSED_code {Z : State} {a__VALUES a_NO_SUCH_NODE a_NO_SUCH_CELL a_NODE_DELETED a_INVALID_NAME a_EXISTS a_NOT_EMPTY a_NOT_A_FILE a_NOT_A_DIRECTORY a_GENERATION_MISMATCH a_TOO_LARGE a_ROOT_NOT_DELETABLE a_INVALID_HANDLE a_BAD_REQUEST a_UNAVAILABLE a_LOCK_HELD a_LOCK_NOT_HELD a_NOT_OPENED_FOR_USE a_SESSION_EXPIRED a_NO_MASTER a_WRONG_EPOCH a_INVALID_SEQUENCER a_POISONED a_WITHDRAWN a_MEMBERSHIP_REFUSED a_PERMISSION_DENIED : Addr} (G : OwnG Z a__VALUES a_NO_SUCH_NODE a_NO_SUCH_CELL a_NODE_DELETED a_INVALID_NAME a_EXISTS a_NOT_EMPTY a_NOT_A_FILE a_NOT_A_DIRECTORY a_GENERATION_MISMATCH a_TOO_LARGE a_ROOT_NOT_DELETABLE a_INVALID_HANDLE a_BAD_REQUEST a_UNAVAILABLE a_LOCK_HELD a_LOCK_NOT_HELD a_NOT_OPENED_FOR_USE a_SESSION_EXPIRED a_NO_MASTER a_WRONG_EPOCH a_INVALID_SEQUENCER a_POISONED a_WITHDRAWN a_MEMBERSHIP_REFUSED a_PERMISSION_DENIED) : Fld Z Z.heap a_MEMBERSHIP_REFUSED "com/example/portunus/portunus/model/ErrorCode" "code" "I" (.int (24 : Int32)) := G.2.2.2.2.2.2.2.2.2.2.2.2.2.2.2.2.2.2.2.2.2.2.2.2.2.2.2.2.2.2.2.2.2.2.2.2.2.2.2.2.2.2.2.2.2.2.2.2.2.2.2.2.2.2.2.2.2.2.2.2.2.2.2.2.2.2.2.2.2.2.2.2.2.2.2.1
theorem g_F_PERMISSION_DENIED_code {Z : State} {a__VALUES a_NO_SUCH_NODE a_NO_SUCH_CELL a_NODE_DELETED a_INVALID_NAME a_EXISTS a_NOT_EMPTY a_NOT_A_FILE a_NOT_A_DIRECTORY a_GENERATION_MISMATCH a_TOO_LARGE a_ROOT_NOT_DELETABLE a_INVALID_HANDLE a_BAD_REQUEST a_UNAVAILABLE a_LOCK_HELD a_LOCK_NOT_HELD a_NOT_OPENED_FOR_USE a_SESSION_EXPIRED a_NO_MASTER a_WRONG_EPOCH a_INVALID_SEQUENCER a_POISONED a_WITHDRAWN a_MEMBERSHIP_REFUSED a_PERMISSION_DENIED : Addr} (G : OwnG Z a__VALUES a_NO_SUCH_NODE a_NO_SUCH_CELL a_NODE_DELETED a_INVALID_NAME a_EXISTS a_NOT_EMPTY a_NOT_A_FILE a_NOT_A_DIRECTORY a_GENERATION_MISMATCH a_TOO_LARGE a_ROOT_NOT_DELETABLE a_INVALID_HANDLE a_BAD_REQUEST a_UNAVAILABLE a_LOCK_HELD a_LOCK_NOT_HELD a_NOT_OPENED_FOR_USE a_SESSION_EXPIRED a_NO_MASTER a_WRONG_EPOCH a_INVALID_SEQUENCER a_POISONED a_WITHDRAWN a_MEMBERSHIP_REFUSED a_PERMISSION_DENIED) : Fld Z Z.heap a_PERMISSION_DENIED "com/example/portunus/portunus/model/ErrorCode" "code" "I" (.int (25 : Int32)) := G.2.2.2.2.2.2.2.2.2.2.2.2.2.2.2.2.2.2.2.2.2.2.2.2.2.2.2.2.2.2.2.2.2.2.2.2.2.2.2.2.2.2.2.2.2.2.2.2.2.2.2.2.2.2.2.2.2.2.2.2.2.2.2.2.2.2.2.2.2.2.2.2.2.2.2.2.1
theorem g_V__VALUES {Z : State} {a__VALUES a_NO_SUCH_NODE a_NO_SUCH_CELL a_NODE_DELETED a_INVALID_NAME a_EXISTS a_NOT_EMPTY a_NOT_A_FILE a_NOT_A_DIRECTORY a_GENERATION_MISMATCH a_TOO_LARGE a_ROOT_NOT_DELETABLE a_INVALID_HANDLE a_BAD_REQUEST a_UNAVAILABLE a_LOCK_HELD a_LOCK_NOT_HELD a_NOT_OPENED_FOR_USE a_SESSION_EXPIRED a_NO_MASTER a_WRONG_EPOCH a_INVALID_SEQUENCER a_POISONED a_WITHDRAWN a_MEMBERSHIP_REFUSED a_PERMISSION_DENIED : Addr} (G : OwnG Z a__VALUES a_NO_SUCH_NODE a_NO_SUCH_CELL a_NODE_DELETED a_INVALID_NAME a_EXISTS a_NOT_EMPTY a_NOT_A_FILE a_NOT_A_DIRECTORY a_GENERATION_MISMATCH a_TOO_LARGE a_ROOT_NOT_DELETABLE a_INVALID_HANDLE a_BAD_REQUEST a_UNAVAILABLE a_LOCK_HELD a_LOCK_NOT_HELD a_NOT_OPENED_FOR_USE a_SESSION_EXPIRED a_NO_MASTER a_WRONG_EPOCH a_INVALID_SEQUENCER a_POISONED a_WITHDRAWN a_MEMBERSHIP_REFUSED a_PERMISSION_DENIED) : ∃ k, Arv Z Z.heap a__VALUES k (Jvm.ClassFile.FieldType.object "com/example/portunus/portunus/model/ErrorCode") (25 : Int32) [(.ref a_NO_SUCH_NODE), (.ref a_NO_SUCH_CELL), (.ref a_NODE_DELETED), (.ref a_INVALID_NAME), (.ref a_EXISTS), (.ref a_NOT_EMPTY), (.ref a_NOT_A_FILE), (.ref a_NOT_A_DIRECTORY), (.ref a_GENERATION_MISMATCH), (.ref a_TOO_LARGE), (.ref a_ROOT_NOT_DELETABLE), (.ref a_INVALID_HANDLE), (.ref a_BAD_REQUEST), (.ref a_UNAVAILABLE), (.ref a_LOCK_HELD), (.ref a_LOCK_NOT_HELD), (.ref a_NOT_OPENED_FOR_USE), (.ref a_SESSION_EXPIRED), (.ref a_NO_MASTER), (.ref a_WRONG_EPOCH), (.ref a_INVALID_SEQUENCER), (.ref a_POISONED), (.ref a_WITHDRAWN), (.ref a_MEMBERSHIP_REFUSED), (.ref a_PERMISSION_DENIED)] .null := G.2.2.2.2.2.2.2.2.2.2.2.2.2.2.2.2.2.2.2.2.2.2.2.2.2.2.2.2.2.2.2.2.2.2.2.2.2.2.2.2.2.2.2.2.2.2.2.2.2.2.2.2.2.2.2.2.2.2.2.2.2.2.2.2.2.2.2.2.2.2.2.2.2.2.2.2.2

theorem own_ne {c d : Int32} (k : Int) (hd : d.toInt = k) (h : ¬ d = c) : c.toInt ≠ k := fun q => h (Int32.toInt_inj.mp (q.trans hd.symm)).symm
theorem own_rng (x : Int32) : 1 ≤ ((1 : Int32) + (x &&& (2147483647 : Int32)) % (25 : Int32)).toInt ∧ ((1 : Int32) + (x &&& (2147483647 : Int32)) % (25 : Int32)).toInt ≤ 25 := by
  have k1 := c_mask x (2147483647 : Int32) 31 (by decide) (by decide)
  have k2 := (c_irem (x &&& (2147483647 : Int32)) (25 : Int32) 25 rfl).1 (by omega)
  have k3 := c_iadd (1 : Int32) ((x &&& (2147483647 : Int32)) % (25 : Int32))
  have k4 : (1 : Int32).toInt = 1 := rfl
  have r1 := rng32 ((1 : Int32) + (x &&& (2147483647 : Int32)) % (25 : Int32))
  omega
theorem tw_0 : (Jvm.Cond.constant "com/example/portunus/portunus/model/ErrorCodeFromCodePinLaw" (7 : Nat) (2147483647 : Int32)) ∈ tables_1 := List.mem_of_getElem? (i := 0) rfl
theorem tw_1 : (Jvm.Cond.methodLink "com/example/portunus/portunus/model/ErrorCodeFromCodePinLaw" (8 : Nat) ({ cls := "com/example/portunus/portunus/model/ErrorCode", name := "fromCode", desc := "(I)Lcom/example/portunus/portunus/model/ErrorCode;" } : Jvm.MethodName)) ∈ tables_1 := List.mem_of_getElem? (i := 1) rfl
theorem tw_2 : (Jvm.Cond.static ({ cls := "com/example/portunus/portunus/model/ErrorCode", name := "fromCode", desc := "(I)Lcom/example/portunus/portunus/model/ErrorCode;" } : Jvm.MethodName)) ∈ tables_1 := List.mem_of_getElem? (i := 2) rfl
theorem tw_3 : (Jvm.Cond.initialized "com/example/portunus/portunus/model/ErrorCode") ∈ tables_1 := List.mem_of_getElem? (i := 3) rfl
theorem tw_4 : (Jvm.Cond.code ({ cls := "com/example/portunus/portunus/model/ErrorCode", name := "fromCode", desc := "(I)Lcom/example/portunus/portunus/model/ErrorCode;" } : Jvm.MethodName) prog_97_method_5_code (5 : Nat) (Option.some (Jvm.ClassFile.FieldType.object "com/example/portunus/portunus/model/ErrorCode"))) ∈ tables_1 := List.mem_of_getElem? (i := 4) rfl
theorem tw_5 : (Jvm.Cond.methodLink "com/example/portunus/portunus/model/ErrorCode" (102 : Nat) ({ cls := "com/example/portunus/portunus/model/ErrorCode", name := "values", desc := "()[Lcom/example/portunus/portunus/model/ErrorCode;" } : Jvm.MethodName)) ∈ tables_1 := List.mem_of_getElem? (i := 5) rfl
theorem tw_6 : (Jvm.Cond.static ({ cls := "com/example/portunus/portunus/model/ErrorCode", name := "values", desc := "()[Lcom/example/portunus/portunus/model/ErrorCode;" } : Jvm.MethodName)) ∈ tables_1 := List.mem_of_getElem? (i := 6) rfl
theorem tw_7 : (Jvm.Cond.code ({ cls := "com/example/portunus/portunus/model/ErrorCode", name := "values", desc := "()[Lcom/example/portunus/portunus/model/ErrorCode;" } : Jvm.MethodName) prog_97_method_1_code (0 : Nat) (Option.some (Jvm.ClassFile.FieldType.array (Jvm.ClassFile.FieldType.object "com/example/portunus/portunus/model/ErrorCode")))) ∈ tables_1 := List.mem_of_getElem? (i := 7) rfl
theorem tw_8 : (Jvm.Cond.fieldLink "com/example/portunus/portunus/model/ErrorCode" (79 : Nat) "com/example/portunus/portunus/model/ErrorCode" "$VALUES" "[Lcom/example/portunus/portunus/model/ErrorCode;") ∈ tables_1 := List.mem_of_getElem? (i := 8) rfl
theorem tw_9 : (Jvm.Cond.laysStatic "com/example/portunus/portunus/model/ErrorCode" "$VALUES" "[Lcom/example/portunus/portunus/model/ErrorCode;") ∈ tables_1 := List.mem_of_getElem? (i := 9) rfl
theorem tw_10 : (Jvm.Cond.methodLink "com/example/portunus/portunus/model/ErrorCode" (83 : Nat) ({ cls := "[Lcom/example/portunus/portunus/model/ErrorCode;", name := "clone", desc := "()Ljava/lang/Object;" } : Jvm.MethodName)) ∈ tables_1 := List.mem_of_getElem? (i := 10) rfl
theorem tw_11 : (Jvm.Cond.sameMethod "[Lcom/example/portunus/portunus/model/ErrorCode;" "java/lang/Object" "clone" "()Ljava/lang/Object;") ∈ tables_1 := List.mem_of_getElem? (i := 11) rfl
theorem tw_13 : (Jvm.Cond.instanceMethod ({ cls := "java/lang/Object", name := "clone", desc := "()Ljava/lang/Object;" } : Jvm.MethodName)) ∈ tables_1 := List.mem_of_getElem? (i := 13) rfl
theorem tw_14 : (Jvm.Cond.selects "[Lcom/example/portunus/portunus/model/ErrorCode;" ({ cls := "[Lcom/example/portunus/portunus/model/ErrorCode;", name := "clone", desc := "()Ljava/lang/Object;" } : Jvm.MethodName) ({ cls := "java/lang/Object", name := "clone", desc := "()Ljava/lang/Object;" } : Jvm.MethodName)) ∈ tables_1 := List.mem_of_getElem? (i := 14) rfl
theorem tw_15 : (Jvm.Cond.native ({ cls := "java/lang/Object", name := "clone", desc := "()Ljava/lang/Object;" } : Jvm.MethodName)) ∈ tables_1 := List.mem_of_getElem? (i := 15) rfl
theorem tw_16 : (Jvm.Cond.castable "[Lcom/example/portunus/portunus/model/ErrorCode;" "java/lang/Cloneable") ∈ tables_1 := List.mem_of_getElem? (i := 16) rfl
theorem tw_17 : (Jvm.Cond.laysStatic "com/example/portunus/portunus/model/ErrorCode" "NO_SUCH_NODE" "Lcom/example/portunus/portunus/model/ErrorCode;") ∈ tables_1 := List.mem_of_getElem? (i := 17) rfl
theorem tw_18 : (Jvm.Cond.laysStatic "com/example/portunus/portunus/model/ErrorCode" "NO_SUCH_CELL" "Lcom/example/portunus/portunus/model/ErrorCode;") ∈ tables_1 := List.mem_of_getElem? (i := 18) rfl
theorem tw_19 : (Jvm.Cond.laysStatic "com/example/portunus/portunus/model/ErrorCode" "NODE_DELETED" "Lcom/example/portunus/portunus/model/ErrorCode;") ∈ tables_1 := List.mem_of_getElem? (i := 19) rfl
theorem tw_20 : (Jvm.Cond.laysStatic "com/example/portunus/portunus/model/ErrorCode" "INVALID_NAME" "Lcom/example/portunus/portunus/model/ErrorCode;") ∈ tables_1 := List.mem_of_getElem? (i := 20) rfl
theorem tw_21 : (Jvm.Cond.laysStatic "com/example/portunus/portunus/model/ErrorCode" "EXISTS" "Lcom/example/portunus/portunus/model/ErrorCode;") ∈ tables_1 := List.mem_of_getElem? (i := 21) rfl
theorem tw_22 : (Jvm.Cond.laysStatic "com/example/portunus/portunus/model/ErrorCode" "NOT_EMPTY" "Lcom/example/portunus/portunus/model/ErrorCode;") ∈ tables_1 := List.mem_of_getElem? (i := 22) rfl
theorem tw_23 : (Jvm.Cond.laysStatic "com/example/portunus/portunus/model/ErrorCode" "NOT_A_FILE" "Lcom/example/portunus/portunus/model/ErrorCode;") ∈ tables_1 := List.mem_of_getElem? (i := 23) rfl
theorem tw_24 : (Jvm.Cond.laysStatic "com/example/portunus/portunus/model/ErrorCode" "NOT_A_DIRECTORY" "Lcom/example/portunus/portunus/model/ErrorCode;") ∈ tables_1 := List.mem_of_getElem? (i := 24) rfl
theorem tw_25 : (Jvm.Cond.laysStatic "com/example/portunus/portunus/model/ErrorCode" "GENERATION_MISMATCH" "Lcom/example/portunus/portunus/model/ErrorCode;") ∈ tables_1 := List.mem_of_getElem? (i := 25) rfl
theorem tw_26 : (Jvm.Cond.laysStatic "com/example/portunus/portunus/model/ErrorCode" "TOO_LARGE" "Lcom/example/portunus/portunus/model/ErrorCode;") ∈ tables_1 := List.mem_of_getElem? (i := 26) rfl
theorem tw_27 : (Jvm.Cond.laysStatic "com/example/portunus/portunus/model/ErrorCode" "ROOT_NOT_DELETABLE" "Lcom/example/portunus/portunus/model/ErrorCode;") ∈ tables_1 := List.mem_of_getElem? (i := 27) rfl
theorem tw_28 : (Jvm.Cond.laysStatic "com/example/portunus/portunus/model/ErrorCode" "INVALID_HANDLE" "Lcom/example/portunus/portunus/model/ErrorCode;") ∈ tables_1 := List.mem_of_getElem? (i := 28) rfl
theorem tw_29 : (Jvm.Cond.laysStatic "com/example/portunus/portunus/model/ErrorCode" "BAD_REQUEST" "Lcom/example/portunus/portunus/model/ErrorCode;") ∈ tables_1 := List.mem_of_getElem? (i := 29) rfl
theorem tw_30 : (Jvm.Cond.laysStatic "com/example/portunus/portunus/model/ErrorCode" "UNAVAILABLE" "Lcom/example/portunus/portunus/model/ErrorCode;") ∈ tables_1 := List.mem_of_getElem? (i := 30) rfl
theorem tw_31 : (Jvm.Cond.laysStatic "com/example/portunus/portunus/model/ErrorCode" "LOCK_HELD" "Lcom/example/portunus/portunus/model/ErrorCode;") ∈ tables_1 := List.mem_of_getElem? (i := 31) rfl
theorem tw_32 : (Jvm.Cond.laysStatic "com/example/portunus/portunus/model/ErrorCode" "LOCK_NOT_HELD" "Lcom/example/portunus/portunus/model/ErrorCode;") ∈ tables_1 := List.mem_of_getElem? (i := 32) rfl
theorem tw_33 : (Jvm.Cond.laysStatic "com/example/portunus/portunus/model/ErrorCode" "NOT_OPENED_FOR_USE" "Lcom/example/portunus/portunus/model/ErrorCode;") ∈ tables_1 := List.mem_of_getElem? (i := 33) rfl
theorem tw_34 : (Jvm.Cond.laysStatic "com/example/portunus/portunus/model/ErrorCode" "SESSION_EXPIRED" "Lcom/example/portunus/portunus/model/ErrorCode;") ∈ tables_1 := List.mem_of_getElem? (i := 34) rfl
theorem tw_35 : (Jvm.Cond.laysStatic "com/example/portunus/portunus/model/ErrorCode" "NO_MASTER" "Lcom/example/portunus/portunus/model/ErrorCode;") ∈ tables_1 := List.mem_of_getElem? (i := 35) rfl
theorem tw_36 : (Jvm.Cond.laysStatic "com/example/portunus/portunus/model/ErrorCode" "WRONG_EPOCH" "Lcom/example/portunus/portunus/model/ErrorCode;") ∈ tables_1 := List.mem_of_getElem? (i := 36) rfl
theorem tw_37 : (Jvm.Cond.laysStatic "com/example/portunus/portunus/model/ErrorCode" "INVALID_SEQUENCER" "Lcom/example/portunus/portunus/model/ErrorCode;") ∈ tables_1 := List.mem_of_getElem? (i := 37) rfl
theorem tw_38 : (Jvm.Cond.laysStatic "com/example/portunus/portunus/model/ErrorCode" "POISONED" "Lcom/example/portunus/portunus/model/ErrorCode;") ∈ tables_1 := List.mem_of_getElem? (i := 38) rfl
theorem tw_39 : (Jvm.Cond.laysStatic "com/example/portunus/portunus/model/ErrorCode" "WITHDRAWN" "Lcom/example/portunus/portunus/model/ErrorCode;") ∈ tables_1 := List.mem_of_getElem? (i := 39) rfl
theorem tw_40 : (Jvm.Cond.laysStatic "com/example/portunus/portunus/model/ErrorCode" "MEMBERSHIP_REFUSED" "Lcom/example/portunus/portunus/model/ErrorCode;") ∈ tables_1 := List.mem_of_getElem? (i := 40) rfl
theorem tw_41 : (Jvm.Cond.laysStatic "com/example/portunus/portunus/model/ErrorCode" "PERMISSION_DENIED" "Lcom/example/portunus/portunus/model/ErrorCode;") ∈ tables_1 := List.mem_of_getElem? (i := 41) rfl
theorem tw_43 : (Jvm.Cond.classLink "com/example/portunus/portunus/model/ErrorCode" (84 : Nat) "[Lcom/example/portunus/portunus/model/ErrorCode;") ∈ tables_1 := List.mem_of_getElem? (i := 43) rfl
theorem tw_45 : (Jvm.Cond.fieldLink "com/example/portunus/portunus/model/ErrorCode" (98 : Nat) "com/example/portunus/portunus/model/ErrorCode" "code" "I") ∈ tables_1 := List.mem_of_getElem? (i := 45) rfl
theorem tw_47 : (Jvm.Cond.methodLink "com/example/portunus/portunus/model/ErrorCodeFromCodePinLaw" (14 : Nat) ({ cls := "com/example/portunus/portunus/model/ErrorCode", name := "code", desc := "()I" } : Jvm.MethodName)) ∈ tables_1 := List.mem_of_getElem? (i := 47) rfl
theorem tw_48 : (Jvm.Cond.declares ({ cls := "com/example/portunus/portunus/model/ErrorCode", name := "code", desc := "()I" } : Jvm.MethodName)) ∈ tables_1 := List.mem_of_getElem? (i := 48) rfl
theorem tw_49 : (Jvm.Cond.instanceMethod ({ cls := "com/example/portunus/portunus/model/ErrorCode", name := "code", desc := "()I" } : Jvm.MethodName)) ∈ tables_1 := List.mem_of_getElem? (i := 49) rfl
theorem tw_50 : (Jvm.Cond.selects "com/example/portunus/portunus/model/ErrorCode" ({ cls := "com/example/portunus/portunus/model/ErrorCode", name := "code", desc := "()I" } : Jvm.MethodName) ({ cls := "com/example/portunus/portunus/model/ErrorCode", name := "code", desc := "()I" } : Jvm.MethodName)) ∈ tables_1 := List.mem_of_getElem? (i := 50) rfl
theorem tw_51 : (Jvm.Cond.code ({ cls := "com/example/portunus/portunus/model/ErrorCode", name := "code", desc := "()I" } : Jvm.MethodName) prog_97_method_4_code (1 : Nat) (Option.some Jvm.ClassFile.FieldType.int)) ∈ tables_1 := List.mem_of_getElem? (i := 51) rfl
theorem d1_0 : decode prog_97_method_5_code 0 = .ok (.invokestatic 102, 3) := by decide +kernel
theorem d1_3 : decode prog_97_method_5_code 3 = .ok (.astore_n 1, 1) := by decide +kernel
theorem d1_4 : decode prog_97_method_5_code 4 = .ok (.aload_n 1, 1) := by decide +kernel
theorem d1_5 : decode prog_97_method_5_code 5 = .ok (.arraylength, 1) := by decide +kernel
theorem d1_6 : decode prog_97_method_5_code 6 = .ok (.istore_n 2, 1) := by decide +kernel
theorem d1_7 : decode prog_97_method_5_code 7 = .ok (.iconst 0, 1) := by decide +kernel
theorem d1_8 : decode prog_97_method_5_code 8 = .ok (.istore_n 3, 1) := by decide +kernel
theorem d1_9 : decode prog_97_method_5_code 9 = .ok (.iload_n 3, 1) := by decide +kernel
theorem d1_10 : decode prog_97_method_5_code 10 = .ok (.iload_n 2, 1) := by decide +kernel
theorem d1_11 : decode prog_97_method_5_code 11 = .ok (.if_icmp .ge 26, 3) := by decide +kernel
theorem d1_14 : decode prog_97_method_5_code 14 = .ok (.aload_n 1, 1) := by decide +kernel
theorem d1_15 : decode prog_97_method_5_code 15 = .ok (.iload_n 3, 1) := by decide +kernel
theorem d1_16 : decode prog_97_method_5_code 16 = .ok (.aaload, 1) := by decide +kernel
theorem d1_17 : decode prog_97_method_5_code 17 = .ok (.astore 4, 2) := by decide +kernel
theorem d1_19 : decode prog_97_method_5_code 19 = .ok (.aload 4, 2) := by decide +kernel
theorem d1_21 : decode prog_97_method_5_code 21 = .ok (.getfield 98, 3) := by decide +kernel
theorem d1_24 : decode prog_97_method_5_code 24 = .ok (.iload_n 0, 1) := by decide +kernel
theorem d1_25 : decode prog_97_method_5_code 25 = .ok (.if_icmp .ne 6, 3) := by decide +kernel
theorem d1_28 : decode prog_97_method_5_code 28 = .ok (.aload 4, 2) := by decide +kernel
theorem d1_30 : decode prog_97_method_5_code 30 = .ok (.areturn, 1) := by decide +kernel
theorem d1_31 : decode prog_97_method_5_code 31 = .ok (.iinc 3 1, 3) := by decide +kernel
theorem d1_34 : decode prog_97_method_5_code 34 = .ok (.goto (-25), 3) := by decide +kernel
theorem d2_0 : decode prog_97_method_1_code 0 = .ok (.getstatic 79, 3) := by decide +kernel
theorem d2_3 : decode prog_97_method_1_code 3 = .ok (.invokevirtual 83, 3) := by decide +kernel
theorem d2_6 : decode prog_97_method_1_code 6 = .ok (.checkcast 84, 3) := by decide +kernel
theorem d2_9 : decode prog_97_method_1_code 9 = .ok (.areturn, 1) := by decide +kernel
theorem d3_0 : decode prog_97_method_4_code 0 = .ok (.aload_n 0, 1) := by decide +kernel
theorem d3_1 : decode prog_97_method_4_code 1 = .ok (.getfield 98, 3) := by decide +kernel
theorem d3_4 : decode prog_97_method_4_code 4 = .ok (.ireturn, 1) := by decide +kernel
theorem pd_0 : parseMethodDescriptor "()[Lcom/example/portunus/portunus/model/ErrorCode;" = some ⟨[], some (.array (.object "com/example/portunus/portunus/model/ErrorCode"))⟩ := by decide +kernel
theorem pd_1 : parseMethodDescriptor "(I)Lcom/example/portunus/portunus/model/ErrorCode;" = some ⟨[.int], some (.object "com/example/portunus/portunus/model/ErrorCode")⟩ := by decide +kernel
theorem pd_2 : parseMethodDescriptor "()I" = some ⟨[], some .int⟩ := by decide +kernel
theorem pn_0 : plainName "com/example/portunus/portunus/model/ErrorCode" = true := by first | (simp [plainName, overriddenIn]; done) | decide +kernel
theorem pn_1 : plainName "com/example/portunus/portunus/model/ErrorCodeFromCodePinLaw" = true := by first | (simp [plainName, overriddenIn]; done) | decide +kernel
theorem ef_2 (m : MethodId)  : entryFrame m #[] 0 = mkF m 0 #[] [] := by first | (simp [entryFrame, mkF, argsToLocals, Value.category]; done) | rfl
theorem ef_1 (m : MethodId) (x0 : Int32) : entryFrame m #[(.int x0)] 5 = mkF m 0 #[.val (.int x0), .unset, .unset, .unset, .unset] [] := by first | (simp [entryFrame, mkF, argsToLocals, Value.category]; done) | rfl
theorem ef_3 (m : MethodId) (x0 : Addr) : entryFrame m #[(.ref x0)] 1 = mkF m 0 #[.val (.ref x0)] [] := by first | (simp [entryFrame, mkF, argsToLocals, Value.category]; done) | rfl
theorem ef_0 (m : MethodId) (x0 : Int32) : entryFrame m #[(.int x0)] maxLocals = mkF m 0 #[.val (.int x0), .unset, .unset] [] := by first | (simp [entryFrame, mkF, argsToLocals, Value.category, maxLocals]; done) | rfl
set_option maxRecDepth 65536 in
set_option maxHeartbeats 40000000 in
theorem rm2 (l : Launch) (Z : State) (a0 : Array Value) (hw : ∀ d ∈ tables_1, d.before a0 Z = true)  (h0 : Heap) {a__VALUES a_NO_SUCH_NODE a_NO_SUCH_CELL a_NODE_DELETED a_INVALID_NAME a_EXISTS a_NOT_EMPTY a_NOT_A_FILE a_NOT_A_DIRECTORY a_GENERATION_MISMATCH a_TOO_LARGE a_ROOT_NOT_DELETABLE a_INVALID_HANDLE a_BAD_REQUEST a_UNAVAILABLE a_LOCK_HELD a_LOCK_NOT_HELD a_NOT_OPENED_FOR_USE a_SESSION_EXPIRED a_NO_MASTER a_WRONG_EPOCH a_INVALID_SEQUENCER a_POISONED a_WITHDRAWN a_MEMBERSHIP_REFUSED a_PERMISSION_DENIED : Addr} (G : OwnG Z a__VALUES a_NO_SUCH_NODE a_NO_SUCH_CELL a_NODE_DELETED a_INVALID_NAME a_EXISTS a_NOT_EMPTY a_NOT_A_FILE a_NOT_A_DIRECTORY a_GENERATION_MISMATCH a_TOO_LARGE a_ROOT_NOT_DELETABLE a_INVALID_HANDLE a_BAD_REQUEST a_UNAVAILABLE a_LOCK_HELD a_LOCK_NOT_HELD a_NOT_OPENED_FOR_USE a_SESSION_EXPIRED a_NO_MASTER a_WRONG_EPOCH a_INVALID_SEQUENCER a_POISONED a_WITHDRAWN a_MEMBERSHIP_REFUSED a_PERMISSION_DENIED) (O : Ext Z.heap h0) :
    OwnMet l Z (⟨"com/example/portunus/portunus/model/ErrorCode", "values", "()[Lcom/example/portunus/portunus/model/ErrorCode;"⟩ : MethodName) prog_97_method_1_code 0 (some (.array (.object "com/example/portunus/portunus/model/ErrorCode"))) [] ({ frames := 1, cells := 1, slots := 25, locals := 14 } : Room) #[] h0 (fun v h L => ∃ b k, v = some (.ref b) ∧ L = [] ∧ Ext h0 h ∧ b = h0.size ∧ Arv Z h b k (Jvm.ClassFile.FieldType.object "com/example/portunus/portunus/model/ErrorCode") (25 : Int32) [(.ref a_NO_SUCH_NODE), (.ref a_NO_SUCH_CELL), (.ref a_NODE_DELETED), (.ref a_INVALID_NAME), (.ref a_EXISTS), (.ref a_NOT_EMPTY), (.ref a_NOT_A_FILE), (.ref a_NOT_A_DIRECTORY), (.ref a_GENERATION_MISMATCH), (.ref a_TOO_LARGE), (.ref a_ROOT_NOT_DELETABLE), (.ref a_INVALID_HANDLE), (.ref a_BAD_REQUEST), (.ref a_UNAVAILABLE), (.ref a_LOCK_HELD), (.ref a_LOCK_NOT_HELD), (.ref a_NOT_OPENED_FOR_USE), (.ref a_SESSION_EXPIRED), (.ref a_NO_MASTER), (.ref a_WRONG_EPOCH), (.ref a_INVALID_SEQUENCER), (.ref a_POISONED), (.ref a_WITHDRAWN), (.ref a_MEMBERSHIP_REFUSED), (.ref a_PERMISSION_DENIED)] .null) := by
  refine own_body (plainFor_of_name pn_0) (fun m => ef_2 m ) ?_
  intro p e s m below meth c s₁ X0 hx hby hml hown hnm hret hlk hZ e0
  replace hown : s.vm.findClass "com/example/portunus/portunus/model/ErrorCode" = some m.cls := hown
  replace hml : c.maxLocals = 0 := hml
  show Ends p.tables e below _ (s₁.setTop (mkF m 0 #[] []))
  obtain ⟨kV, VV⟩ := g_V__VALUES G
  refine own_getstatic X0 hx hby hZ hown (host := "") (Or.inl (hw _ tw_8)) Via.refl e0 ((g_S__VALUES G).ext O) d2_0 rfl (fun T1 X1 e1 => ?_)
  refine own_clone X1 hx hby hZ hown (hw _ tw_10) (hw _ tw_11) (hw _ tw_15) (hw _ tw_13) (hw _ tw_14) (hw _ tw_16) e1 (VV.ext O) ((g_E__VALUES G).ext O) (by rw [hml]; rfl) (by decide) (W := 0) 25 (by decide) (by decide) (by decide) (by decide) (by decide) d2_3 rfl (fun T2 h2 b2 X2 e2 g2 E2 V2 A2 => ?_)
  have ne_a__VALUES_b2 : a__VALUES ≠ b2 := own_lt (VV.ext O).lt g2
  refine own_checkcast X2 hx hby hZ hown (hw _ tw_43) e2 (Ins.self A2) d2_6 rfl (fun T3 X3 e3 => ?_)
  refine own_ret X3 hx hby hret hlk d2_9 (.ref b2) rfl (Or.inr (Or.inr ⟨rfl, rfl, rfl⟩)) (by decide) (by decide) ?_
  rw [e3]
  exact ⟨b2, _, rfl, rfl, E2, g2, V2⟩
set_option maxRecDepth 65536 in
set_option maxHeartbeats 40000000 in
theorem rm1 (l : Launch) (Z : State) (a0 : Array Value) (hw : ∀ d ∈ tables_1, d.before a0 Z = true) (x0 : Int32) (h0 : Heap) {a__VALUES a_NO_SUCH_NODE a_NO_SUCH_CELL a_NODE_DELETED a_INVALID_NAME a_EXISTS a_NOT_EMPTY a_NOT_A_FILE a_NOT_A_DIRECTORY a_GENERATION_MISMATCH a_TOO_LARGE a_ROOT_NOT_DELETABLE a_INVALID_HANDLE a_BAD_REQUEST a_UNAVAILABLE a_LOCK_HELD a_LOCK_NOT_HELD a_NOT_OPENED_FOR_USE a_SESSION_EXPIRED a_NO_MASTER a_WRONG_EPOCH a_INVALID_SEQUENCER a_POISONED a_WITHDRAWN a_MEMBERSHIP_REFUSED a_PERMISSION_DENIED : Addr} (G : OwnG Z a__VALUES a_NO_SUCH_NODE a_NO_SUCH_CELL a_NODE_DELETED a_INVALID_NAME a_EXISTS a_NOT_EMPTY a_NOT_A_FILE a_NOT_A_DIRECTORY a_GENERATION_MISMATCH a_TOO_LARGE a_ROOT_NOT_DELETABLE a_INVALID_HANDLE a_BAD_REQUEST a_UNAVAILABLE a_LOCK_HELD a_LOCK_NOT_HELD a_NOT_OPENED_FOR_USE a_SESSION_EXPIRED a_NO_MASTER a_WRONG_EPOCH a_INVALID_SEQUENCER a_POISONED a_WITHDRAWN a_MEMBERSHIP_REFUSED a_PERMISSION_DENIED) (O : Ext Z.heap h0) (hb1 : 1 ≤ x0.toInt) (hb2 : x0.toInt ≤ 25) :
    OwnMet l Z (⟨"com/example/portunus/portunus/model/ErrorCode", "fromCode", "(I)Lcom/example/portunus/portunus/model/ErrorCode;"⟩ : MethodName) prog_97_method_5_code 5 (some (.object "com/example/portunus/portunus/model/ErrorCode")) [] ({ frames := 2, cells := 1, slots := 25, locals := 25 } : Room) #[(.int x0)] h0 (fun v h L => ∃ a, v = some (.ref a) ∧ L = [] ∧ Ext h0 h ∧ Exa Z Z.heap a "com/example/portunus/portunus/model/ErrorCode" ∧ Fld Z Z.heap a "com/example/portunus/portunus/model/ErrorCode" "code" "I" (.int x0)) := by
  refine own_body (plainFor_of_name pn_0) (fun m => ef_1 m x0) ?_
  intro p e s m below meth c s₁ X0 hx hby hml hown hnm hret hlk hZ e0
  replace hown : s.vm.findClass "com/example/portunus/portunus/model/ErrorCode" = some m.cls := hown
  replace hml : c.maxLocals = 5 := hml
  show Ends p.tables e below _ (s₁.setTop (mkF m 0 #[.val (.int x0), .unset, .unset, .unset, .unset] []))
  refine own_static X0 hx hby hZ (argsL := []) (rest := []) hown (hw _ tw_5) (hw _ tw_6) (hw _ tw_3) (hw _ tw_7) (by decide) (rm2 l Z a0 hw h0 G O) e0 (by rw [hml]; rfl) pd_0 rfl (by decide) (W := 0) (Nat.le_refl _) (by decide) (by decide) (by decide) d1_0 rfl rfl (fun v4 T4 L4 X4 hQ4 => ?_)
  obtain ⟨b4, k4, rfl, rfl, E4, g4, V4⟩ := hQ4
  show Ends p.tables e below _ (T4.setTop (mkF m 3 #[.val (.int x0), .unset, .unset, .unset, .unset] [(.ref b4)]))
  refine own_astoreN X4 hx hby d1_3 rfl #[.val (.int x0), .val (.ref b4), .unset, .unset, .unset] rfl rfl ?_
  refine own_aloadN X4 hx hby d1_4 rfl rfl rfl ?_
  refine own_arraylength X4 hx hby hZ rfl V4 d1_5 rfl ?_
  refine own_istoreN X4 hx hby d1_6 rfl #[.val (.int x0), .val (.ref b4), .val (.int (25 : Int32)), .unset, .unset] rfl ?_
  refine own_iconst X4 hx hby d1_7 rfl (0 : Int32) rfl ?_
  refine own_istoreN X4 hx hby d1_8 rfl #[.val (.int x0), .val (.ref b4), .val (.int (25 : Int32)), .val (.int (0 : Int32)), .unset] rfl ?_
  refine own_iloadN X4 hx hby d1_9 rfl rfl ?_
  refine own_iloadN X4 hx hby d1_10 rfl rfl ?_
  refine own_icmp_ge X4 hx hby d1_11 (pcY := 37) (pcN := 14) (by decide) rfl (fun (hc5 : 25 ≤ 0) => False.elim (by exact absurd hc5 (by decide))) (fun (hc5 : 0 < 25) => ?_)
  refine own_aloadN X4 hx hby d1_14 rfl rfl rfl ?_
  refine own_iloadN X4 hx hby d1_15 rfl rfl ?_
  refine own_aaload X4 hx hby hZ (.ref a_NO_SUCH_NODE) rfl rfl V4 (by decide) rfl d1_16 rfl ?_
  refine own_astore X4 hx hby d1_17 rfl #[.val (.int x0), .val (.ref b4), .val (.int (25 : Int32)), .val (.int (0 : Int32)), .val (.ref a_NO_SUCH_NODE)] rfl rfl ?_
  refine own_aload X4 hx hby d1_19 rfl rfl rfl ?_
  have f6 := (own_ext O E4)
  refine own_getfield X4 hx hby hZ hown (host := "") (Or.inl (hw _ tw_45)) Via.refl rfl ((g_F_NO_SUCH_NODE_code G).ext f6) d1_21 rfl (fun T7 X7 e7 => ?_)
  refine own_iloadN X7 hx hby d1_24 rfl rfl ?_
  refine own_icmp_ne X7 hx hby d1_25 (pcY := 31) (pcN := 28) (by decide) rfl (fun (hc8 : ¬ (1 : Int32) = x0) => ?_) (fun (hc8 : (1 : Int32) = x0) => ?_)
  · -- pc 25: t
    have hc8' := own_ne 1 rfl hc8
    refine own_iinc X7 hx hby d1_31 rfl (1 : Int32) rfl #[.val (.int x0), .val (.ref b4), .val (.int (25 : Int32)), .val (.int (1 : Int32)), .val (.ref a_NO_SUCH_NODE)] rfl rfl ?_
    refine own_goto X7 hx hby d1_34 (pc' := 9) (by decide) ?_
    refine own_iloadN X7 hx hby d1_9 rfl rfl ?_
    refine own_iloadN X7 hx hby d1_10 rfl rfl ?_
    refine own_icmp_ge X7 hx hby d1_11 (pcY := 37) (pcN := 14) (by decide) rfl (fun (hc9 : 25 ≤ 1) => False.elim (by exact absurd hc9 (by decide))) (fun (hc9 : 1 < 25) => ?_)
    refine own_aloadN X7 hx hby d1_14 rfl rfl rfl ?_
    refine own_iloadN X7 hx hby d1_15 rfl rfl ?_
    refine own_aaload X7 hx hby hZ (.ref a_NO_SUCH_CELL) rfl e7 V4 (by decide) rfl d1_16 rfl ?_
    refine own_astore X7 hx hby d1_17 rfl #[.val (.int x0), .val (.ref b4), .val (.int (25 : Int32)), .val (.int (1 : Int32)), .val (.ref a_NO_SUCH_CELL)] rfl rfl ?_
    refine own_aload X7 hx hby d1_19 rfl rfl rfl ?_
    refine own_getfield X7 hx hby hZ hown (host := "") (Or.inl (hw _ tw_45)) Via.refl e7 ((g_F_NO_SUCH_CELL_code G).ext f6) d1_21 rfl (fun T10 X10 e10 => ?_)
    refine own_iloadN X10 hx hby d1_24 rfl rfl ?_
    refine own_icmp_ne X10 hx hby d1_25 (pcY := 31) (pcN := 28) (by decide) rfl (fun (hc11 : ¬ (2 : Int32) = x0) => ?_) (fun (hc11 : (2 : Int32) = x0) => ?_)
    · -- pc 25: t
      have hc11' := own_ne 2 rfl hc11
      refine own_iinc X10 hx hby d1_31 rfl (1 : Int32) rfl #[.val (.int x0), .val (.ref b4), .val (.int (25 : Int32)), .val (.int (2 : Int32)), .val (.ref a_NO_SUCH_CELL)] rfl rfl ?_
      refine own_goto X10 hx hby d1_34 (pc' := 9) (by decide) ?_
      refine own_iloadN X10 hx hby d1_9 rfl rfl ?_
      refine own_iloadN X10 hx hby d1_10 rfl rfl ?_
      refine own_icmp_ge X10 hx hby d1_11 (pcY := 37) (pcN := 14) (by decide) rfl (fun (hc12 : 25 ≤ 2) => False.elim (by exact absurd hc12 (by decide))) (fun (hc12 : 2 < 25) => ?_)
      refine own_aloadN X10 hx hby d1_14 rfl rfl rfl ?_
      refine own_iloadN X10 hx hby d1_15 rfl rfl ?_
      refine own_aaload X10 hx hby hZ (.ref a_NODE_DELETED) rfl e10 V4 (by decide) rfl d1_16 rfl ?_
      refine own_astore X10 hx hby d1_17 rfl #[.val (.int x0), .val (.ref b4), .val (.int (25 : Int32)), .val (.int (2 : Int32)), .val (.ref a_NODE_DELETED)] rfl rfl ?_
      refine own_aload X10 hx hby d1_19 rfl rfl rfl ?_
      refine own_getfield X10 hx hby hZ hown (host := "") (Or.inl (hw _ tw_45)) Via.refl e10 ((g_F_NODE_DELETED_code G).ext f6) d1_21 rfl (fun T13 X13 e13 => ?_)
      refine own_iloadN X13 hx hby d1_24 rfl rfl ?_
      refine own_icmp_ne X13 hx hby d1_25 (pcY := 31) (pcN := 28) (by decide) rfl (fun (hc14 : ¬ (3 : Int32) = x0) => ?_) (fun (hc14 : (3 : Int32) = x0) => ?_)
      · -- pc 25: t
        have hc14' := own_ne 3 rfl hc14
        refine own_iinc X13 hx hby d1_31 rfl (1 : Int32) rfl #[.val (.int x0), .val (.ref b4), .val (.int (25 : Int32)), .val (.int (3 : Int32)), .val (.ref a_NODE_DELETED)] rfl rfl ?_
        refine own_goto X13 hx hby d1_34 (pc' := 9) (by decide) ?_
        refine own_iloadN X13 hx hby d1_9 rfl rfl ?_
        refine own_iloadN X13 hx hby d1_10 rfl rfl ?_
        refine own_icmp_ge X13 hx hby d1_11 (pcY := 37) (pcN := 14) (by decide) rfl (fun (hc15 : 25 ≤ 3) => False.elim (by exact absurd hc15 (by decide))) (fun (hc15 : 3 < 25) => ?_)
        refine own_aloadN X13 hx hby d1_14 rfl rfl rfl ?_
        refine own_iloadN X13 hx hby d1_15 rfl rfl ?_
        refine own_aaload X13 hx hby hZ (.ref a_INVALID_NAME) rfl e13 V4 (by decide) rfl d1_16 rfl ?_
        refine own_astore X13 hx hby d1_17 rfl #[.val (.int x0), .val (.ref b4), .val (.int (25 : Int32)), .val (.int (3 : Int32)), .val (.ref a_INVALID_NAME)] rfl rfl ?_
        refine own_aload X13 hx hby d1_19 rfl rfl rfl ?_
        refine own_getfield X13 hx hby hZ hown (host := "") (Or.inl (hw _ tw_45)) Via.refl e13 ((g_F_INVALID_NAME_code G).ext f6) d1_21 rfl (fun T16 X16 e16 => ?_)
        refine own_iloadN X16 hx hby d1_24 rfl rfl ?_
        refine own_icmp_ne X16 hx hby d1_25 (pcY := 31) (pcN := 28) (by decide) rfl (fun (hc17 : ¬ (4 : Int32) = x0) => ?_) (fun (hc17 : (4 : Int32) = x0) => ?_)
        · -- pc 25: t
          have hc17' := own_ne 4 rfl hc17
          refine own_iinc X16 hx hby d1_31 rfl (1 : Int32) rfl #[.val (.int x0), .val (.ref b4), .val (.int (25 : Int32)), .val (.int (4 : Int32)), .val (.ref a_INVALID_NAME)] rfl rfl ?_
          refine own_goto X16 hx hby d1_34 (pc' := 9) (by decide) ?_
          refine own_iloadN X16 hx hby d1_9 rfl rfl ?_
          refine own_iloadN X16 hx hby d1_10 rfl rfl ?_
          refine own_icmp_ge X16 hx hby d1_11 (pcY := 37) (pcN := 14) (by decide) rfl (fun (hc18 : 25 ≤ 4) => False.elim (by exact absurd hc18 (by decide))) (fun (hc18 : 4 < 25) => ?_)
          refine own_aloadN X16 hx hby d1_14 rfl rfl rfl ?_
          refine own_iloadN X16 hx hby d1_15 rfl rfl ?_
          refine own_aaload X16 hx hby hZ (.ref a_EXISTS) rfl e16 V4 (by decide) rfl d1_16 rfl ?_
          refine own_astore X16 hx hby d1_17 rfl #[.val (.int x0), .val (.ref b4), .val (.int (25 : Int32)), .val (.int (4 : Int32)), .val (.ref a_EXISTS)] rfl rfl ?_
          refine own_aload X16 hx hby d1_19 rfl rfl rfl ?_
          refine own_getfield X16 hx hby hZ hown (host := "") (Or.inl (hw _ tw_45)) Via.refl e16 ((g_F_EXISTS_code G).ext f6) d1_21 rfl (fun T19 X19 e19 => ?_)
          refine own_iloadN X19 hx hby d1_24 rfl rfl ?_
          refine own_icmp_ne X19 hx hby d1_25 (pcY := 31) (pcN := 28) (by decide) rfl (fun (hc20 : ¬ (5 : Int32) = x0) => ?_) (fun (hc20 : (5 : Int32) = x0) => ?_)
          · -- pc 25: t
            have hc20' := own_ne 5 rfl hc20
            refine own_iinc X19 hx hby d1_31 rfl (1 : Int32) rfl #[.val (.int x0), .val (.ref b4), .val (.int (25 : Int32)), .val (.int (5 : Int32)), .val (.ref a_EXISTS)] rfl rfl ?_
            refine own_goto X19 hx hby d1_34 (pc' := 9) (by decide) ?_
            refine own_iloadN X19 hx hby d1_9 rfl rfl ?_
            refine own_iloadN X19 hx hby d1_10 rfl rfl ?_
            refine own_icmp_ge X19 hx hby d1_11 (pcY := 37) (pcN := 14) (by decide) rfl (fun (hc21 : 25 ≤ 5) => False.elim (by exact absurd hc21 (by decide))) (fun (hc21 : 5 < 25) => ?_)
            refine own_aloadN X19 hx hby d1_14 rfl rfl rfl ?_
            refine own_iloadN X19 hx hby d1_15 rfl rfl ?_
            refine own_aaload X19 hx hby hZ (.ref a_NOT_EMPTY) rfl e19 V4 (by decide) rfl d1_16 rfl ?_
            refine own_astore X19 hx hby d1_17 rfl #[.val (.int x0), .val (.ref b4), .val (.int (25 : Int32)), .val (.int (5 : Int32)), .val (.ref a_NOT_EMPTY)] rfl rfl ?_
            refine own_aload X19 hx hby d1_19 rfl rfl rfl ?_
            refine own_getfield X19 hx hby hZ hown (host := "") (Or.inl (hw _ tw_45)) Via.refl e19 ((g_F_NOT_EMPTY_code G).ext f6) d1_21 rfl (fun T22 X22 e22 => ?_)
            refine own_iloadN X22 hx hby d1_24 rfl rfl ?_
            refine own_icmp_ne X22 hx hby d1_25 (pcY := 31) (pcN := 28) (by decide) rfl (fun (hc23 : ¬ (6 : Int32) = x0) => ?_) (fun (hc23 : (6 : Int32) = x0) => ?_)
            · -- pc 25: t
              have hc23' := own_ne 6 rfl hc23
              refine own_iinc X22 hx hby d1_31 rfl (1 : Int32) rfl #[.val (.int x0), .val (.ref b4), .val (.int (25 : Int32)), .val (.int (6 : Int32)), .val (.ref a_NOT_EMPTY)] rfl rfl ?_
              refine own_goto X22 hx hby d1_34 (pc' := 9) (by decide) ?_
              refine own_iloadN X22 hx hby d1_9 rfl rfl ?_
              refine own_iloadN X22 hx hby d1_10 rfl rfl ?_
              refine own_icmp_ge X22 hx hby d1_11 (pcY := 37) (pcN := 14) (by decide) rfl (fun (hc24 : 25 ≤ 6) => False.elim (by exact absurd hc24 (by decide))) (fun (hc24 : 6 < 25) => ?_)
              refine own_aloadN X22 hx hby d1_14 rfl rfl rfl ?_
              refine own_iloadN X22 hx hby d1_15 rfl rfl ?_
              refine own_aaload X22 hx hby hZ (.ref a_NOT_A_FILE) rfl e22 V4 (by decide) rfl d1_16 rfl ?_
              refine own_astore X22 hx hby d1_17 rfl #[.val (.int x0), .val (.ref b4), .val (.int (25 : Int32)), .val (.int (6 : Int32)), .val (.ref a_NOT_A_FILE)] rfl rfl ?_
              refine own_aload X22 hx hby d1_19 rfl rfl rfl ?_
              refine own_getfield X22 hx hby hZ hown (host := "") (Or.inl (hw _ tw_45)) Via.refl e22 ((g_F_NOT_A_FILE_code G).ext f6) d1_21 rfl (fun T25 X25 e25 => ?_)
              refine own_iloadN X25 hx hby d1_24 rfl rfl ?_
              refine own_icmp_ne X25 hx hby d1_25 (pcY := 31) (pcN := 28) (by decide) rfl (fun (hc26 : ¬ (7 : Int32) = x0) => ?_) (fun (hc26 : (7 : Int32) = x0) => ?_)
              · -- pc 25: t
                have hc26' := own_ne 7 rfl hc26
                refine own_iinc X25 hx hby d1_31 rfl (1 : Int32) rfl #[.val (.int x0), .val (.ref b4), .val (.int (25 : Int32)), .val (.int (7 : Int32)), .val (.ref a_NOT_A_FILE)] rfl rfl ?_
                refine own_goto X25 hx hby d1_34 (pc' := 9) (by decide) ?_
                refine own_iloadN X25 hx hby d1_9 rfl rfl ?_
                refine own_iloadN X25 hx hby d1_10 rfl rfl ?_
                refine own_icmp_ge X25 hx hby d1_11 (pcY := 37) (pcN := 14) (by decide) rfl (fun (hc27 : 25 ≤ 7) => False.elim (by exact absurd hc27 (by decide))) (fun (hc27 : 7 < 25) => ?_)
                refine own_aloadN X25 hx hby d1_14 rfl rfl rfl ?_
                refine own_iloadN X25 hx hby d1_15 rfl rfl ?_
                refine own_aaload X25 hx hby hZ (.ref a_NOT_A_DIRECTORY) rfl e25 V4 (by decide) rfl d1_16 rfl ?_
                refine own_astore X25 hx hby d1_17 rfl #[.val (.int x0), .val (.ref b4), .val (.int (25 : Int32)), .val (.int (7 : Int32)), .val (.ref a_NOT_A_DIRECTORY)] rfl rfl ?_
                refine own_aload X25 hx hby d1_19 rfl rfl rfl ?_
                refine own_getfield X25 hx hby hZ hown (host := "") (Or.inl (hw _ tw_45)) Via.refl e25 ((g_F_NOT_A_DIRECTORY_code G).ext f6) d1_21 rfl (fun T28 X28 e28 => ?_)
                refine own_iloadN X28 hx hby d1_24 rfl rfl ?_
                refine own_icmp_ne X28 hx hby d1_25 (pcY := 31) (pcN := 28) (by decide) rfl (fun (hc29 : ¬ (8 : Int32) = x0) => ?_) (fun (hc29 : (8 : Int32) = x0) => ?_)
                · -- pc 25: t
                  have hc29' := own_ne 8 rfl hc29
                  refine own_iinc X28 hx hby d1_31 rfl (1 : Int32) rfl #[.val (.int x0), .val (.ref b4), .val (.int (25 : Int32)), .val (.int (8 : Int32)), .val (.ref a_NOT_A_DIRECTORY)] rfl rfl ?_
                  refine own_goto X28 hx hby d1_34 (pc' := 9) (by decide) ?_
                  refine own_iloadN X28 hx hby d1_9 rfl rfl ?_
                  refine own_iloadN X28 hx hby d1_10 rfl rfl ?_
                  refine own_icmp_ge X28 hx hby d1_11 (pcY := 37) (pcN := 14) (by decide) rfl (fun (hc30 : 25 ≤ 8) => False.elim (by exact absurd hc30 (by decide))) (fun (hc30 : 8 < 25) => ?_)
                  refine own_aloadN X28 hx hby d1_14 rfl rfl rfl ?_
                  refine own_iloadN X28 hx hby d1_15 rfl rfl ?_
                  refine own_aaload X28 hx hby hZ (.ref a_GENERATION_MISMATCH) rfl e28 V4 (by decide) rfl d1_16 rfl ?_
                  refine own_astore X28 hx hby d1_17 rfl #[.val (.int x0), .val (.ref b4), .val (.int (25 : Int32)), .val (.int (8 : Int32)), .val (.ref a_GENERATION_MISMATCH)] rfl rfl ?_
                  refine own_aload X28 hx hby d1_19 rfl rfl rfl ?_
                  refine own_getfield X28 hx hby hZ hown (host := "") (Or.inl (hw _ tw_45)) Via.refl e28 ((g_F_GENERATION_MISMATCH_code G).ext f6) d1_21 rfl (fun T31 X31 e31 => ?_)
                  refine own_iloadN X31 hx hby d1_24 rfl rfl ?_
                  refine own_icmp_ne X31 hx hby d1_25 (pcY := 31) (pcN := 28) (by decide) rfl (fun (hc32 : ¬ (9 : Int32) = x0) => ?_) (fun (hc32 : (9 : Int32) = x0) => ?_)
                  · -- pc 25: t
                    have hc32' := own_ne 9 rfl hc32
                    refine own_iinc X31 hx hby d1_31 rfl (1 : Int32) rfl #[.val (.int x0), .val (.ref b4), .val (.int (25 : Int32)), .val (.int (9 : Int32)), .val (.ref a_GENERATION_MISMATCH)] rfl rfl ?_
                    refine own_goto X31 hx hby d1_34 (pc' := 9) (by decide) ?_
                    refine own_iloadN X31 hx hby d1_9 rfl rfl ?_
                    refine own_iloadN X31 hx hby d1_10 rfl rfl ?_
                    refine own_icmp_ge X31 hx hby d1_11 (pcY := 37) (pcN := 14) (by decide) rfl (fun (hc33 : 25 ≤ 9) => False.elim (by exact absurd hc33 (by decide))) (fun (hc33 : 9 < 25) => ?_)
                    refine own_aloadN X31 hx hby d1_14 rfl rfl rfl ?_
                    refine own_iloadN X31 hx hby d1_15 rfl rfl ?_
                    refine own_aaload X31 hx hby hZ (.ref a_TOO_LARGE) rfl e31 V4 (by decide) rfl d1_16 rfl ?_
                    refine own_astore X31 hx hby d1_17 rfl #[.val (.int x0), .val (.ref b4), .val (.int (25 : Int32)), .val (.int (9 : Int32)), .val (.ref a_TOO_LARGE)] rfl rfl ?_
                    refine own_aload X31 hx hby d1_19 rfl rfl rfl ?_
                    refine own_getfield X31 hx hby hZ hown (host := "") (Or.inl (hw _ tw_45)) Via.refl e31 ((g_F_TOO_LARGE_code G).ext f6) d1_21 rfl (fun T34 X34 e34 => ?_)
                    refine own_iloadN X34 hx hby d1_24 rfl rfl ?_
                    refine own_icmp_ne X34 hx hby d1_25 (pcY := 31) (pcN := 28) (by decide) rfl (fun (hc35 : ¬ (10 : Int32) = x0) => ?_) (fun (hc35 : (10 : Int32) = x0) => ?_)
                    · -- pc 25: t
                      have hc35' := own_ne 10 rfl hc35
                      refine own_iinc X34 hx hby d1_31 rfl (1 : Int32) rfl #[.val (.int x0), .val (.ref b4), .val (.int (25 : Int32)), .val (.int (10 : Int32)), .val (.ref a_TOO_LARGE)] rfl rfl ?_
                      refine own_goto X34 hx hby d1_34 (pc' := 9) (by decide) ?_
                      refine own_iloadN X34 hx hby d1_9 rfl rfl ?_
                      refine own_iloadN X34 hx hby d1_10 rfl rfl ?_
                      refine own_icmp_ge X34 hx hby d1_11 (pcY := 37) (pcN := 14) (by decide) rfl (fun (hc36 : 25 ≤ 10) => False.elim (by exact absurd hc36 (by decide))) (fun (hc36 : 10 < 25) => ?_)
                      refine own_aloadN X34 hx hby d1_14 rfl rfl rfl ?_
                      refine own_iloadN X34 hx hby d1_15 rfl rfl ?_
                      refine own_aaload X34 hx hby hZ (.ref a_ROOT_NOT_DELETABLE) rfl e34 V4 (by decide) rfl d1_16 rfl ?_
                      refine own_astore X34 hx hby d1_17 rfl #[.val (.int x0), .val (.ref b4), .val (.int (25 : Int32)), .val (.int (10 : Int32)), .val (.ref a_ROOT_NOT_DELETABLE)] rfl rfl ?_
                      refine own_aload X34 hx hby d1_19 rfl rfl rfl ?_
                      refine own_getfield X34 hx hby hZ hown (host := "") (Or.inl (hw _ tw_45)) Via.refl e34 ((g_F_ROOT_NOT_DELETABLE_code G).ext f6) d1_21 rfl (fun T37 X37 e37 => ?_)
                      refine own_iloadN X37 hx hby d1_24 rfl rfl ?_
                      refine own_icmp_ne X37 hx hby d1_25 (pcY := 31) (pcN := 28) (by decide) rfl (fun (hc38 : ¬ (11 : Int32) = x0) => ?_) (fun (hc38 : (11 : Int32) = x0) => ?_)
                      · -- pc 25: t
                        have hc38' := own_ne 11 rfl hc38
                        refine own_iinc X37 hx hby d1_31 rfl (1 : Int32) rfl #[.val (.int x0), .val (.ref b4), .val (.int (25 : Int32)), .val (.int (11 : Int32)), .val (.ref a_ROOT_NOT_DELETABLE)] rfl rfl ?_
                        refine own_goto X37 hx hby d1_34 (pc' := 9) (by decide) ?_
                        refine own_iloadN X37 hx hby d1_9 rfl rfl ?_
                        refine own_iloadN X37 hx hby d1_10 rfl rfl ?_
                        refine own_icmp_ge X37 hx hby d1_11 (pcY := 37) (pcN := 14) (by decide) rfl (fun (hc39 : 25 ≤ 11) => False.elim (by exact absurd hc39 (by decide))) (fun (hc39 : 11 < 25) => ?_)
                        refine own_aloadN X37 hx hby d1_14 rfl rfl rfl ?_
                        refine own_iloadN X37 hx hby d1_15 rfl rfl ?_
                        refine own_aaload X37 hx hby hZ (.ref a_INVALID_HANDLE) rfl e37 V4 (by decide) rfl d1_16 rfl ?_
                        refine own_astore X37 hx hby d1_17 rfl #[.val (.int x0), .val (.ref b4), .val (.int (25 : Int32)), .val (.int (11 : Int32)), .val (.ref a_INVALID_HANDLE)] rfl rfl ?_
                        refine own_aload X37 hx hby d1_19 rfl rfl rfl ?_
                        refine own_getfield X37 hx hby hZ hown (host := "") (Or.inl (hw _ tw_45)) Via.refl e37 ((g_F_INVALID_HANDLE_code G).ext f6) d1_21 rfl (fun T40 X40 e40 => ?_)
                        refine own_iloadN X40 hx hby d1_24 rfl rfl ?_
                        refine own_icmp_ne X40 hx hby d1_25 (pcY := 31) (pcN := 28) (by decide) rfl (fun (hc41 : ¬ (12 : Int32) = x0) => ?_) (fun (hc41 : (12 : Int32) = x0) => ?_)
                        · -- pc 25: t
                          have hc41' := own_ne 12 rfl hc41
                          refine own_iinc X40 hx hby d1_31 rfl (1 : Int32) rfl #[.val (.int x0), .val (.ref b4), .val (.int (25 : Int32)), .val (.int (12 : Int32)), .val (.ref a_INVALID_HANDLE)] rfl rfl ?_
                          refine own_goto X40 hx hby d1_34 (pc' := 9) (by decide) ?_
                          refine own_iloadN X40 hx hby d1_9 rfl rfl ?_
                          refine own_iloadN X40 hx hby d1_10 rfl rfl ?_
                          refine own_icmp_ge X40 hx hby d1_11 (pcY := 37) (pcN := 14) (by decide) rfl (fun (hc42 : 25 ≤ 12) => False.elim (by exact absurd hc42 (by decide))) (fun (hc42 : 12 < 25) => ?_)
                          refine own_aloadN X40 hx hby d1_14 rfl rfl rfl ?_
                          refine own_iloadN X40 hx hby d1_15 rfl rfl ?_
                          refine own_aaload X40 hx hby hZ (.ref a_BAD_REQUEST) rfl e40 V4 (by decide) rfl d1_16 rfl ?_
                          refine own_astore X40 hx hby d1_17 rfl #[.val (.int x0), .val (.ref b4), .val (.int (25 : Int32)), .val (.int (12 : Int32)), .val (.ref a_BAD_REQUEST)] rfl rfl ?_
                          refine own_aload X40 hx hby d1_19 rfl rfl rfl ?_
                          refine own_getfield X40 hx hby hZ hown (host := "") (Or.inl (hw _ tw_45)) Via.refl e40 ((g_F_BAD_REQUEST_code G).ext f6) d1_21 rfl (fun T43 X43 e43 => ?_)
                          refine own_iloadN X43 hx hby d1_24 rfl rfl ?_
                          refine own_icmp_ne X43 hx hby d1_25 (pcY := 31) (pcN := 28) (by decide) rfl (fun (hc44 : ¬ (13 : Int32) = x0) => ?_) (fun (hc44 : (13 : Int32) = x0) => ?_)
                          · -- pc 25: t
                            have hc44' := own_ne 13 rfl hc44
                            refine own_iinc X43 hx hby d1_31 rfl (1 : Int32) rfl #[.val (.int x0), .val (.ref b4), .val (.int (25 : Int32)), .val (.int (13 : Int32)), .val (.ref a_BAD_REQUEST)] rfl rfl ?_
                            refine own_goto X43 hx hby d1_34 (pc' := 9) (by decide) ?_
                            refine own_iloadN X43 hx hby d1_9 rfl rfl ?_
                            refine own_iloadN X43 hx hby d1_10 rfl rfl ?_
                            refine own_icmp_ge X43 hx hby d1_11 (pcY := 37) (pcN := 14) (by decide) rfl (fun (hc45 : 25 ≤ 13) => False.elim (by exact absurd hc45 (by decide))) (fun (hc45 : 13 < 25) => ?_)
                            refine own_aloadN X43 hx hby d1_14 rfl rfl rfl ?_
                            refine own_iloadN X43 hx hby d1_15 rfl rfl ?_
                            refine own_aaload X43 hx hby hZ (.ref a_UNAVAILABLE) rfl e43 V4 (by decide) rfl d1_16 rfl ?_
                            refine own_astore X43 hx hby d1_17 rfl #[.val (.int x0), .val (.ref b4), .val (.int (25 : Int32)), .val (.int (13 : Int32)), .val (.ref a_UNAVAILABLE)] rfl rfl ?_
                            refine own_aload X43 hx hby d1_19 rfl rfl rfl ?_
                            refine own_getfield X43 hx hby hZ hown (host := "") (Or.inl (hw _ tw_45)) Via.refl e43 ((g_F_UNAVAILABLE_code G).ext f6) d1_21 rfl (fun T46 X46 e46 => ?_)
                            refine own_iloadN X46 hx hby d1_24 rfl rfl ?_
                            refine own_icmp_ne X46 hx hby d1_25 (pcY := 31) (pcN := 28) (by decide) rfl (fun (hc47 : ¬ (14 : Int32) = x0) => ?_) (fun (hc47 : (14 : Int32) = x0) => ?_)
                            · -- pc 25: t
                              have hc47' := own_ne 14 rfl hc47
                              refine own_iinc X46 hx hby d1_31 rfl (1 : Int32) rfl #[.val (.int x0), .val (.ref b4), .val (.int (25 : Int32)), .val (.int (14 : Int32)), .val (.ref a_UNAVAILABLE)] rfl rfl ?_
                              refine own_goto X46 hx hby d1_34 (pc' := 9) (by decide) ?_
                              refine own_iloadN X46 hx hby d1_9 rfl rfl ?_
                              refine own_iloadN X46 hx hby d1_10 rfl rfl ?_
                              refine own_icmp_ge X46 hx hby d1_11 (pcY := 37) (pcN := 14) (by decide) rfl (fun (hc48 : 25 ≤ 14) => False.elim (by exact absurd hc48 (by decide))) (fun (hc48 : 14 < 25) => ?_)
                              refine own_aloadN X46 hx hby d1_14 rfl rfl rfl ?_
                              refine own_iloadN X46 hx hby d1_15 rfl rfl ?_
                              refine own_aaload X46 hx hby hZ (.ref a_LOCK_HELD) rfl e46 V4 (by decide) rfl d1_16 rfl ?_
                              refine own_astore X46 hx hby d1_17 rfl #[.val (.int x0), .val (.ref b4), .val (.int (25 : Int32)), .val (.int (14 : Int32)), .val (.ref a_LOCK_HELD)] rfl rfl ?_
                              refine own_aload X46 hx hby d1_19 rfl rfl rfl ?_
                              refine own_getfield X46 hx hby hZ hown (host := "") (Or.inl (hw _ tw_45)) Via.refl e46 ((g_F_LOCK_HELD_code G).ext f6) d1_21 rfl (fun T49 X49 e49 => ?_)
                              refine own_iloadN X49 hx hby d1_24 rfl rfl ?_
                              refine own_icmp_ne X49 hx hby d1_25 (pcY := 31) (pcN := 28) (by decide) rfl (fun (hc50 : ¬ (15 : Int32) = x0) => ?_) (fun (hc50 : (15 : Int32) = x0) => ?_)
                              · -- pc 25: t
                                have hc50' := own_ne 15 rfl hc50
                                refine own_iinc X49 hx hby d1_31 rfl (1 : Int32) rfl #[.val (.int x0), .val (.ref b4), .val (.int (25 : Int32)), .val (.int (15 : Int32)), .val (.ref a_LOCK_HELD)] rfl rfl ?_
                                refine own_goto X49 hx hby d1_34 (pc' := 9) (by decide) ?_
                                refine own_iloadN X49 hx hby d1_9 rfl rfl ?_
                                refine own_iloadN X49 hx hby d1_10 rfl rfl ?_
                                refine own_icmp_ge X49 hx hby d1_11 (pcY := 37) (pcN := 14) (by decide) rfl (fun (hc51 : 25 ≤ 15) => False.elim (by exact absurd hc51 (by decide))) (fun (hc51 : 15 < 25) => ?_)
                                refine own_aloadN X49 hx hby d1_14 rfl rfl rfl ?_
                                refine own_iloadN X49 hx hby d1_15 rfl rfl ?_
                                refine own_aaload X49 hx hby hZ (.ref a_LOCK_NOT_HELD) rfl e49 V4 (by decide) rfl d1_16 rfl ?_
                                refine own_astore X49 hx hby d1_17 rfl #[.val (.int x0), .val (.ref b4), .val (.int (25 : Int32)), .val (.int (15 : Int32)), .val (.ref a_LOCK_NOT_HELD)] rfl rfl ?_
                                refine own_aload X49 hx hby d1_19 rfl rfl rfl ?_
                                refine own_getfield X49 hx hby hZ hown (host := "") (Or.inl (hw _ tw_45)) Via.refl e49 ((g_F_LOCK_NOT_HELD_code G).ext f6) d1_21 rfl (fun T52 X52 e52 => ?_)
                                refine own_iloadN X52 hx hby d1_24 rfl rfl ?_
                                refine own_icmp_ne X52 hx hby d1_25 (pcY := 31) (pcN := 28) (by decide) rfl (fun (hc53 : ¬ (16 : Int32) = x0) => ?_) (fun (hc53 : (16 : Int32) = x0) => ?_)
                                · -- pc 25: t
                                  have hc53' := own_ne 16 rfl hc53
                                  refine own_iinc X52 hx hby d1_31 rfl (1 : Int32) rfl #[.val (.int x0), .val (.ref b4), .val (.int (25 : Int32)), .val (.int (16 : Int32)), .val (.ref a_LOCK_NOT_HELD)] rfl rfl ?_
                                  refine own_goto X52 hx hby d1_34 (pc' := 9) (by decide) ?_
                                  refine own_iloadN X52 hx hby d1_9 rfl rfl ?_
                                  refine own_iloadN X52 hx hby d1_10 rfl rfl ?_
                                  refine own_icmp_ge X52 hx hby d1_11 (pcY := 37) (pcN := 14) (by decide) rfl (fun (hc54 : 25 ≤ 16) => False.elim (by exact absurd hc54 (by decide))) (fun (hc54 : 16 < 25) => ?_)
                                  refine own_aloadN X52 hx hby d1_14 rfl rfl rfl ?_
                                  refine own_iloadN X52 hx hby d1_15 rfl rfl ?_
                                  refine own_aaload X52 hx hby hZ (.ref a_NOT_OPENED_FOR_USE) rfl e52 V4 (by decide) rfl d1_16 rfl ?_
                                  refine own_astore X52 hx hby d1_17 rfl #[.val (.int x0), .val (.ref b4), .val (.int (25 : Int32)), .val (.int (16 : Int32)), .val (.ref a_NOT_OPENED_FOR_USE)] rfl rfl ?_
                                  refine own_aload X52 hx hby d1_19 rfl rfl rfl ?_
                                  refine own_getfield X52 hx hby hZ hown (host := "") (Or.inl (hw _ tw_45)) Via.refl e52 ((g_F_NOT_OPENED_FOR_USE_code G).ext f6) d1_21 rfl (fun T55 X55 e55 => ?_)
                                  refine own_iloadN X55 hx hby d1_24 rfl rfl ?_
                                  refine own_icmp_ne X55 hx hby d1_25 (pcY := 31) (pcN := 28) (by decide) rfl (fun (hc56 : ¬ (17 : Int32) = x0) => ?_) (fun (hc56 : (17 : Int32) = x0) => ?_)
                                  · -- pc 25: t
                                    have hc56' := own_ne 17 rfl hc56
                                    refine own_iinc X55 hx hby d1_31 rfl (1 : Int32) rfl #[.val (.int x0), .val (.ref b4), .val (.int (25 : Int32)), .val (.int (17 : Int32)), .val (.ref a_NOT_OPENED_FOR_USE)] rfl rfl ?_
                                    refine own_goto X55 hx hby d1_34 (pc' := 9) (by decide) ?_
                                    refine own_iloadN X55 hx hby d1_9 rfl rfl ?_
                                    refine own_iloadN X55 hx hby d1_10 rfl rfl ?_
                                    refine own_icmp_ge X55 hx hby d1_11 (pcY := 37) (pcN := 14) (by decide) rfl (fun (hc57 : 25 ≤ 17) => False.elim (by exact absurd hc57 (by decide))) (fun (hc57 : 17 < 25) => ?_)
                                    refine own_aloadN X55 hx hby d1_14 rfl rfl rfl ?_
                                    refine own_iloadN X55 hx hby d1_15 rfl rfl ?_
                                    refine own_aaload X55 hx hby hZ (.ref a_SESSION_EXPIRED) rfl e55 V4 (by decide) rfl d1_16 rfl ?_
                                    refine own_astore X55 hx hby d1_17 rfl #[.val (.int x0), .val (.ref b4), .val (.int (25 : Int32)), .val (.int (17 : Int32)), .val (.ref a_SESSION_EXPIRED)] rfl rfl ?_
                                    refine own_aload X55 hx hby d1_19 rfl rfl rfl ?_
                                    refine own_getfield X55 hx hby hZ hown (host := "") (Or.inl (hw _ tw_45)) Via.refl e55 ((g_F_SESSION_EXPIRED_code G).ext f6) d1_21 rfl (fun T58 X58 e58 => ?_)
                                    refine own_iloadN X58 hx hby d1_24 rfl rfl ?_
                                    refine own_icmp_ne X58 hx hby d1_25 (pcY := 31) (pcN := 28) (by decide) rfl (fun (hc59 : ¬ (18 : Int32) = x0) => ?_) (fun (hc59 : (18 : Int32) = x0) => ?_)
                                    · -- pc 25: t
                                      have hc59' := own_ne 18 rfl hc59
                                      refine own_iinc X58 hx hby d1_31 rfl (1 : Int32) rfl #[.val (.int x0), .val (.ref b4), .val (.int (25 : Int32)), .val (.int (18 : Int32)), .val (.ref a_SESSION_EXPIRED)] rfl rfl ?_
                                      refine own_goto X58 hx hby d1_34 (pc' := 9) (by decide) ?_
                                      refine own_iloadN X58 hx hby d1_9 rfl rfl ?_
                                      refine own_iloadN X58 hx hby d1_10 rfl rfl ?_
                                      refine own_icmp_ge X58 hx hby d1_11 (pcY := 37) (pcN := 14) (by decide) rfl (fun (hc60 : 25 ≤ 18) => False.elim (by exact absurd hc60 (by decide))) (fun (hc60 : 18 < 25) => ?_)
                                      refine own_aloadN X58 hx hby d1_14 rfl rfl rfl ?_
                                      refine own_iloadN X58 hx hby d1_15 rfl rfl ?_
                                      refine own_aaload X58 hx hby hZ (.ref a_NO_MASTER) rfl e58 V4 (by decide) rfl d1_16 rfl ?_
                                      refine own_astore X58 hx hby d1_17 rfl #[.val (.int x0), .val (.ref b4), .val (.int (25 : Int32)), .val (.int (18 : Int32)), .val (.ref a_NO_MASTER)] rfl rfl ?_
                                      refine own_aload X58 hx hby d1_19 rfl rfl rfl ?_
                                      refine own_getfield X58 hx hby hZ hown (host := "") (Or.inl (hw _ tw_45)) Via.refl e58 ((g_F_NO_MASTER_code G).ext f6) d1_21 rfl (fun T61 X61 e61 => ?_)
                                      refine own_iloadN X61 hx hby d1_24 rfl rfl ?_
                                      refine own_icmp_ne X61 hx hby d1_25 (pcY := 31) (pcN := 28) (by decide) rfl (fun (hc62 : ¬ (19 : Int32) = x0) => ?_) (fun (hc62 : (19 : Int32) = x0) => ?_)
                                      · -- pc 25: t
                                        have hc62' := own_ne 19 rfl hc62
                                        refine own_iinc X61 hx hby d1_31 rfl (1 : Int32) rfl #[.val (.int x0), .val (.ref b4), .val (.int (25 : Int32)), .val (.int (19 : Int32)), .val (.ref a_NO_MASTER)] rfl rfl ?_
                                        refine own_goto X61 hx hby d1_34 (pc' := 9) (by decide) ?_
                                        refine own_iloadN X61 hx hby d1_9 rfl rfl ?_
                                        refine own_iloadN X61 hx hby d1_10 rfl rfl ?_
                                        refine own_icmp_ge X61 hx hby d1_11 (pcY := 37) (pcN := 14) (by decide) rfl (fun (hc63 : 25 ≤ 19) => False.elim (by exact absurd hc63 (by decide))) (fun (hc63 : 19 < 25) => ?_)
                                        refine own_aloadN X61 hx hby d1_14 rfl rfl rfl ?_
                                        refine own_iloadN X61 hx hby d1_15 rfl rfl ?_
                                        refine own_aaload X61 hx hby hZ (.ref a_WRONG_EPOCH) rfl e61 V4 (by decide) rfl d1_16 rfl ?_
                                        refine own_astore X61 hx hby d1_17 rfl #[.val (.int x0), .val (.ref b4), .val (.int (25 : Int32)), .val (.int (19 : Int32)), .val (.ref a_WRONG_EPOCH)] rfl rfl ?_
                                        refine own_aload X61 hx hby d1_19 rfl rfl rfl ?_
                                        refine own_getfield X61 hx hby hZ hown (host := "") (Or.inl (hw _ tw_45)) Via.refl e61 ((g_F_WRONG_EPOCH_code G).ext f6) d1_21 rfl (fun T64 X64 e64 => ?_)
                                        refine own_iloadN X64 hx hby d1_24 rfl rfl ?_
                                        refine own_icmp_ne X64 hx hby d1_25 (pcY := 31) (pcN := 28) (by decide) rfl (fun (hc65 : ¬ (20 : Int32) = x0) => ?_) (fun (hc65 : (20 : Int32) = x0) => ?_)
                                        · -- pc 25: t
                                          have hc65' := own_ne 20 rfl hc65
                                          refine own_iinc X64 hx hby d1_31 rfl (1 : Int32) rfl #[.val (.int x0), .val (.ref b4), .val (.int (25 : Int32)), .val (.int (20 : Int32)), .val (.ref a_WRONG_EPOCH)] rfl rfl ?_
                                          refine own_goto X64 hx hby d1_34 (pc' := 9) (by decide) ?_
                                          refine own_iloadN X64 hx hby d1_9 rfl rfl ?_
                                          refine own_iloadN X64 hx hby d1_10 rfl rfl ?_
                                          refine own_icmp_ge X64 hx hby d1_11 (pcY := 37) (pcN := 14) (by decide) rfl (fun (hc66 : 25 ≤ 20) => False.elim (by exact absurd hc66 (by decide))) (fun (hc66 : 20 < 25) => ?_)
                                          refine own_aloadN X64 hx hby d1_14 rfl rfl rfl ?_
                                          refine own_iloadN X64 hx hby d1_15 rfl rfl ?_
                                          refine own_aaload X64 hx hby hZ (.ref a_INVALID_SEQUENCER) rfl e64 V4 (by decide) rfl d1_16 rfl ?_
                                          refine own_astore X64 hx hby d1_17 rfl #[.val (.int x0), .val (.ref b4), .val (.int (25 : Int32)), .val (.int (20 : Int32)), .val (.ref a_INVALID_SEQUENCER)] rfl rfl ?_
                                          refine own_aload X64 hx hby d1_19 rfl rfl rfl ?_
                                          refine own_getfield X64 hx hby hZ hown (host := "") (Or.inl (hw _ tw_45)) Via.refl e64 ((g_F_INVALID_SEQUENCER_code G).ext f6) d1_21 rfl (fun T67 X67 e67 => ?_)
                                          refine own_iloadN X67 hx hby d1_24 rfl rfl ?_
                                          refine own_icmp_ne X67 hx hby d1_25 (pcY := 31) (pcN := 28) (by decide) rfl (fun (hc68 : ¬ (21 : Int32) = x0) => ?_) (fun (hc68 : (21 : Int32) = x0) => ?_)
                                          · -- pc 25: t
                                            have hc68' := own_ne 21 rfl hc68
                                            refine own_iinc X67 hx hby d1_31 rfl (1 : Int32) rfl #[.val (.int x0), .val (.ref b4), .val (.int (25 : Int32)), .val (.int (21 : Int32)), .val (.ref a_INVALID_SEQUENCER)] rfl rfl ?_
                                            refine own_goto X67 hx hby d1_34 (pc' := 9) (by decide) ?_
                                            refine own_iloadN X67 hx hby d1_9 rfl rfl ?_
                                            refine own_iloadN X67 hx hby d1_10 rfl rfl ?_
                                            refine own_icmp_ge X67 hx hby d1_11 (pcY := 37) (pcN := 14) (by decide) rfl (fun (hc69 : 25 ≤ 21) => False.elim (by exact absurd hc69 (by decide))) (fun (hc69 : 21 < 25) => ?_)
                                            refine own_aloadN X67 hx hby d1_14 rfl rfl rfl ?_
                                            refine own_iloadN X67 hx hby d1_15 rfl rfl ?_
                                            refine own_aaload X67 hx hby hZ (.ref a_POISONED) rfl e67 V4 (by decide) rfl d1_16 rfl ?_
                                            refine own_astore X67 hx hby d1_17 rfl #[.val (.int x0), .val (.ref b4), .val (.int (25 : Int32)), .val (.int (21 : Int32)), .val (.ref a_POISONED)] rfl rfl ?_
                                            refine own_aload X67 hx hby d1_19 rfl rfl rfl ?_
                                            refine own_getfield X67 hx hby hZ hown (host := "") (Or.inl (hw _ tw_45)) Via.refl e67 ((g_F_POISONED_code G).ext f6) d1_21 rfl (fun T70 X70 e70 => ?_)
                                            refine own_iloadN X70 hx hby d1_24 rfl rfl ?_
                                            refine own_icmp_ne X70 hx hby d1_25 (pcY := 31) (pcN := 28) (by decide) rfl (fun (hc71 : ¬ (22 : Int32) = x0) => ?_) (fun (hc71 : (22 : Int32) = x0) => ?_)
                                            · -- pc 25: t
                                              have hc71' := own_ne 22 rfl hc71
                                              refine own_iinc X70 hx hby d1_31 rfl (1 : Int32) rfl #[.val (.int x0), .val (.ref b4), .val (.int (25 : Int32)), .val (.int (22 : Int32)), .val (.ref a_POISONED)] rfl rfl ?_
                                              refine own_goto X70 hx hby d1_34 (pc' := 9) (by decide) ?_
                                              refine own_iloadN X70 hx hby d1_9 rfl rfl ?_
                                              refine own_iloadN X70 hx hby d1_10 rfl rfl ?_
                                              refine own_icmp_ge X70 hx hby d1_11 (pcY := 37) (pcN := 14) (by decide) rfl (fun (hc72 : 25 ≤ 22) => False.elim (by exact absurd hc72 (by decide))) (fun (hc72 : 22 < 25) => ?_)
                                              refine own_aloadN X70 hx hby d1_14 rfl rfl rfl ?_
                                              refine own_iloadN X70 hx hby d1_15 rfl rfl ?_
                                              refine own_aaload X70 hx hby hZ (.ref a_WITHDRAWN) rfl e70 V4 (by decide) rfl d1_16 rfl ?_
                                              refine own_astore X70 hx hby d1_17 rfl #[.val (.int x0), .val (.ref b4), .val (.int (25 : Int32)), .val (.int (22 : Int32)), .val (.ref a_WITHDRAWN)] rfl rfl ?_
                                              refine own_aload X70 hx hby d1_19 rfl rfl rfl ?_
                                              refine own_getfield X70 hx hby hZ hown (host := "") (Or.inl (hw _ tw_45)) Via.refl e70 ((g_F_WITHDRAWN_code G).ext f6) d1_21 rfl (fun T73 X73 e73 => ?_)
                                              refine own_iloadN X73 hx hby d1_24 rfl rfl ?_
                                              refine own_icmp_ne X73 hx hby d1_25 (pcY := 31) (pcN := 28) (by decide) rfl (fun (hc74 : ¬ (23 : Int32) = x0) => ?_) (fun (hc74 : (23 : Int32) = x0) => ?_)
                                              · -- pc 25: t
                                                have hc74' := own_ne 23 rfl hc74
                                                refine own_iinc X73 hx hby d1_31 rfl (1 : Int32) rfl #[.val (.int x0), .val (.ref b4), .val (.int (25 : Int32)), .val (.int (23 : Int32)), .val (.ref a_WITHDRAWN)] rfl rfl ?_
                                                refine own_goto X73 hx hby d1_34 (pc' := 9) (by decide) ?_
                                                refine own_iloadN X73 hx hby d1_9 rfl rfl ?_
                                                refine own_iloadN X73 hx hby d1_10 rfl rfl ?_
                                                refine own_icmp_ge X73 hx hby d1_11 (pcY := 37) (pcN := 14) (by decide) rfl (fun (hc75 : 25 ≤ 23) => False.elim (by exact absurd hc75 (by decide))) (fun (hc75 : 23 < 25) => ?_)
                                                refine own_aloadN X73 hx hby d1_14 rfl rfl rfl ?_
                                                refine own_iloadN X73 hx hby d1_15 rfl rfl ?_
                                                refine own_aaload X73 hx hby hZ (.ref a_MEMBERSHIP_REFUSED) rfl e73 V4 (by decide) rfl d1_16 rfl ?_
                                                refine own_astore X73 hx hby d1_17 rfl #[.val (.int x0), .val (.ref b4), .val (.int (25 : Int32)), .val (.int (23 : Int32)), .val (.ref a_MEMBERSHIP_REFUSED)] rfl rfl ?_
                                                refine own_aload X73 hx hby d1_19 rfl rfl rfl ?_
                                                refine own_getfield X73 hx hby hZ hown (host := "") (Or.inl (hw _ tw_45)) Via.refl e73 ((g_F_MEMBERSHIP_REFUSED_code G).ext f6) d1_21 rfl (fun T76 X76 e76 => ?_)
                                                refine own_iloadN X76 hx hby d1_24 rfl rfl ?_
                                                refine own_icmp_ne X76 hx hby d1_25 (pcY := 31) (pcN := 28) (by decide) rfl (fun (hc77 : ¬ (24 : Int32) = x0) => ?_) (fun (hc77 : (24 : Int32) = x0) => ?_)
                                                · -- pc 25: t
                                                  have hc77' := own_ne 24 rfl hc77
                                                  refine own_iinc X76 hx hby d1_31 rfl (1 : Int32) rfl #[.val (.int x0), .val (.ref b4), .val (.int (25 : Int32)), .val (.int (24 : Int32)), .val (.ref a_MEMBERSHIP_REFUSED)] rfl rfl ?_
                                                  refine own_goto X76 hx hby d1_34 (pc' := 9) (by decide) ?_
                                                  refine own_iloadN X76 hx hby d1_9 rfl rfl ?_
                                                  refine own_iloadN X76 hx hby d1_10 rfl rfl ?_
                                                  refine own_icmp_ge X76 hx hby d1_11 (pcY := 37) (pcN := 14) (by decide) rfl (fun (hc78 : 25 ≤ 24) => False.elim (by exact absurd hc78 (by decide))) (fun (hc78 : 24 < 25) => ?_)
                                                  refine own_aloadN X76 hx hby d1_14 rfl rfl rfl ?_
                                                  refine own_iloadN X76 hx hby d1_15 rfl rfl ?_
                                                  refine own_aaload X76 hx hby hZ (.ref a_PERMISSION_DENIED) rfl e76 V4 (by decide) rfl d1_16 rfl ?_
                                                  refine own_astore X76 hx hby d1_17 rfl #[.val (.int x0), .val (.ref b4), .val (.int (25 : Int32)), .val (.int (24 : Int32)), .val (.ref a_PERMISSION_DENIED)] rfl rfl ?_
                                                  refine own_aload X76 hx hby d1_19 rfl rfl rfl ?_
                                                  refine own_getfield X76 hx hby hZ hown (host := "") (Or.inl (hw _ tw_45)) Via.refl e76 ((g_F_PERMISSION_DENIED_code G).ext f6) d1_21 rfl (fun T79 X79 e79 => ?_)
                                                  refine own_iloadN X79 hx hby d1_24 rfl rfl ?_
                                                  refine own_icmp_ne X79 hx hby d1_25 (pcY := 31) (pcN := 28) (by decide) rfl (fun (hc80 : ¬ (25 : Int32) = x0) => ?_) (fun (hc80 : (25 : Int32) = x0) => ?_)
                                                  · -- pc 25: t
                                                    have hc80' := own_ne 25 rfl hc80
                                                    refine own_iinc X79 hx hby d1_31 rfl (1 : Int32) rfl #[.val (.int x0), .val (.ref b4), .val (.int (25 : Int32)), .val (.int (25 : Int32)), .val (.ref a_PERMISSION_DENIED)] rfl rfl ?_
                                                    refine own_goto X79 hx hby d1_34 (pc' := 9) (by decide) ?_
                                                    refine own_iloadN X79 hx hby d1_9 rfl rfl ?_
                                                    refine own_iloadN X79 hx hby d1_10 rfl rfl ?_
                                                    refine own_icmp_ge X79 hx hby d1_11 (pcY := 37) (pcN := 14) (by decide) rfl (fun (hc81 : 25 ≤ 25) => ?_) (fun (hc81 : 25 < 25) => False.elim (by exact absurd hc81 (by decide)))
                                                    exfalso; omega
                                                  · -- pc 25: f
                                                    refine own_aload X79 hx hby d1_28 rfl rfl rfl ?_
                                                    refine own_ret X79 hx hby hret hlk d1_30 (.ref a_PERMISSION_DENIED) rfl (Or.inr (Or.inr ⟨rfl, rfl, rfl⟩)) (by decide) (by decide) ?_
                                                    rw [e79]
                                                    subst hc80
                                                    exact ⟨_, rfl, rfl, E4, g_E_PERMISSION_DENIED G, g_F_PERMISSION_DENIED_code G⟩
                                                · -- pc 25: f
                                                  refine own_aload X76 hx hby d1_28 rfl rfl rfl ?_
                                                  refine own_ret X76 hx hby hret hlk d1_30 (.ref a_MEMBERSHIP_REFUSED) rfl (Or.inr (Or.inr ⟨rfl, rfl, rfl⟩)) (by decide) (by decide) ?_
                                                  rw [e76]
                                                  subst hc77
                                                  exact ⟨_, rfl, rfl, E4, g_E_MEMBERSHIP_REFUSED G, g_F_MEMBERSHIP_REFUSED_code G⟩
                                              · -- pc 25: f
                                                refine own_aload X73 hx hby d1_28 rfl rfl rfl ?_
                                                refine own_ret X73 hx hby hret hlk d1_30 (.ref a_WITHDRAWN) rfl (Or.inr (Or.inr ⟨rfl, rfl, rfl⟩)) (by decide) (by decide) ?_
                                                rw [e73]
                                                subst hc74
                                                exact ⟨_, rfl, rfl, E4, g_E_WITHDRAWN G, g_F_WITHDRAWN_code G⟩
                                            · -- pc 25: f
                                              refine own_aload X70 hx hby d1_28 rfl rfl rfl ?_
                                              refine own_ret X70 hx hby hret hlk d1_30 (.ref a_POISONED) rfl (Or.inr (Or.inr ⟨rfl, rfl, rfl⟩)) (by decide) (by decide) ?_
                                              rw [e70]
                                              subst hc71
                                              exact ⟨_, rfl, rfl, E4, g_E_POISONED G, g_F_POISONED_code G⟩
                                          · -- pc 25: f
                                            refine own_aload X67 hx hby d1_28 rfl rfl rfl ?_
                                            refine own_ret X67 hx hby hret hlk d1_30 (.ref a_INVALID_SEQUENCER) rfl (Or.inr (Or.inr ⟨rfl, rfl, rfl⟩)) (by decide) (by decide) ?_
                                            rw [e67]
                                            subst hc68
                                            exact ⟨_, rfl, rfl, E4, g_E_INVALID_SEQUENCER G, g_F_INVALID_SEQUENCER_code G⟩
                                        · -- pc 25: f
                                          refine own_aload X64 hx hby d1_28 rfl rfl rfl ?_
                                          refine own_ret X64 hx hby hret hlk d1_30 (.ref a_WRONG_EPOCH) rfl (Or.inr (Or.inr ⟨rfl, rfl, rfl⟩)) (by decide) (by decide) ?_
                                          rw [e64]
                                          subst hc65
                                          exact ⟨_, rfl, rfl, E4, g_E_WRONG_EPOCH G, g_F_WRONG_EPOCH_code G⟩
                                      · -- pc 25: f
                                        refine own_aload X61 hx hby d1_28 rfl rfl rfl ?_
                                        refine own_ret X61 hx hby hret hlk d1_30 (.ref a_NO_MASTER) rfl (Or.inr (Or.inr ⟨rfl, rfl, rfl⟩)) (by decide) (by decide) ?_
                                        rw [e61]
                                        subst hc62
                                        exact ⟨_, rfl, rfl, E4, g_E_NO_MASTER G, g_F_NO_MASTER_code G⟩
                                    · -- pc 25: f
                                      refine own_aload X58 hx hby d1_28 rfl rfl rfl ?_
                                      refine own_ret X58 hx hby hret hlk d1_30 (.ref a_SESSION_EXPIRED) rfl (Or.inr (Or.inr ⟨rfl, rfl, rfl⟩)) (by decide) (by decide) ?_
                                      rw [e58]
                                      subst hc59
                                      exact ⟨_, rfl, rfl, E4, g_E_SESSION_EXPIRED G, g_F_SESSION_EXPIRED_code G⟩
                                  · -- pc 25: f
                                    refine own_aload X55 hx hby d1_28 rfl rfl rfl ?_
                                    refine own_ret X55 hx hby hret hlk d1_30 (.ref a_NOT_OPENED_FOR_USE) rfl (Or.inr (Or.inr ⟨rfl, rfl, rfl⟩)) (by decide) (by decide) ?_
                                    rw [e55]
                                    subst hc56
                                    exact ⟨_, rfl, rfl, E4, g_E_NOT_OPENED_FOR_USE G, g_F_NOT_OPENED_FOR_USE_code G⟩
                                · -- pc 25: f
                                  refine own_aload X52 hx hby d1_28 rfl rfl rfl ?_
                                  refine own_ret X52 hx hby hret hlk d1_30 (.ref a_LOCK_NOT_HELD) rfl (Or.inr (Or.inr ⟨rfl, rfl, rfl⟩)) (by decide) (by decide) ?_
                                  rw [e52]
                                  subst hc53
                                  exact ⟨_, rfl, rfl, E4, g_E_LOCK_NOT_HELD G, g_F_LOCK_NOT_HELD_code G⟩
                              · -- pc 25: f
                                refine own_aload X49 hx hby d1_28 rfl rfl rfl ?_
                                refine own_ret X49 hx hby hret hlk d1_30 (.ref a_LOCK_HELD) rfl (Or.inr (Or.inr ⟨rfl, rfl, rfl⟩)) (by decide) (by decide) ?_
                                rw [e49]
                                subst hc50
                                exact ⟨_, rfl, rfl, E4, g_E_LOCK_HELD G, g_F_LOCK_HELD_code G⟩
                            · -- pc 25: f
                              refine own_aload X46 hx hby d1_28 rfl rfl rfl ?_
                              refine own_ret X46 hx hby hret hlk d1_30 (.ref a_UNAVAILABLE) rfl (Or.inr (Or.inr ⟨rfl, rfl, rfl⟩)) (by decide) (by decide) ?_
                              rw [e46]
                              subst hc47
                              exact ⟨_, rfl, rfl, E4, g_E_UNAVAILABLE G, g_F_UNAVAILABLE_code G⟩
                          · -- pc 25: f
                            refine own_aload X43 hx hby d1_28 rfl rfl rfl ?_
                            refine own_ret X43 hx hby hret hlk d1_30 (.ref a_BAD_REQUEST) rfl (Or.inr (Or.inr ⟨rfl, rfl, rfl⟩)) (by decide) (by decide) ?_
                            rw [e43]
                            subst hc44
                            exact ⟨_, rfl, rfl, E4, g_E_BAD_REQUEST G, g_F_BAD_REQUEST_code G⟩
                        · -- pc 25: f
                          refine own_aload X40 hx hby d1_28 rfl rfl rfl ?_
                          refine own_ret X40 hx hby hret hlk d1_30 (.ref a_INVALID_HANDLE) rfl (Or.inr (Or.inr ⟨rfl, rfl, rfl⟩)) (by decide) (by decide) ?_
                          rw [e40]
                          subst hc41
                          exact ⟨_, rfl, rfl, E4, g_E_INVALID_HANDLE G, g_F_INVALID_HANDLE_code G⟩
                      · -- pc 25: f
                        refine own_aload X37 hx hby d1_28 rfl rfl rfl ?_
                        refine own_ret X37 hx hby hret hlk d1_30 (.ref a_ROOT_NOT_DELETABLE) rfl (Or.inr (Or.inr ⟨rfl, rfl, rfl⟩)) (by decide) (by decide) ?_
                        rw [e37]
                        subst hc38
                        exact ⟨_, rfl, rfl, E4, g_E_ROOT_NOT_DELETABLE G, g_F_ROOT_NOT_DELETABLE_code G⟩
                    · -- pc 25: f
                      refine own_aload X34 hx hby d1_28 rfl rfl rfl ?_
                      refine own_ret X34 hx hby hret hlk d1_30 (.ref a_TOO_LARGE) rfl (Or.inr (Or.inr ⟨rfl, rfl, rfl⟩)) (by decide) (by decide) ?_
                      rw [e34]
                      subst hc35
                      exact ⟨_, rfl, rfl, E4, g_E_TOO_LARGE G, g_F_TOO_LARGE_code G⟩
                  · -- pc 25: f
                    refine own_aload X31 hx hby d1_28 rfl rfl rfl ?_
                    refine own_ret X31 hx hby hret hlk d1_30 (.ref a_GENERATION_MISMATCH) rfl (Or.inr (Or.inr ⟨rfl, rfl, rfl⟩)) (by decide) (by decide) ?_
                    rw [e31]
                    subst hc32
                    exact ⟨_, rfl, rfl, E4, g_E_GENERATION_MISMATCH G, g_F_GENERATION_MISMATCH_code G⟩
                · -- pc 25: f
                  refine own_aload X28 hx hby d1_28 rfl rfl rfl ?_
                  refine own_ret X28 hx hby hret hlk d1_30 (.ref a_NOT_A_DIRECTORY) rfl (Or.inr (Or.inr ⟨rfl, rfl, rfl⟩)) (by decide) (by decide) ?_
                  rw [e28]
                  subst hc29
                  exact ⟨_, rfl, rfl, E4, g_E_NOT_A_DIRECTORY G, g_F_NOT_A_DIRECTORY_code G⟩
              · -- pc 25: f
                refine own_aload X25 hx hby d1_28 rfl rfl rfl ?_
                refine own_ret X25 hx hby hret hlk d1_30 (.ref a_NOT_A_FILE) rfl (Or.inr (Or.inr ⟨rfl, rfl, rfl⟩)) (by decide) (by decide) ?_
                rw [e25]
                subst hc26
                exact ⟨_, rfl, rfl, E4, g_E_NOT_A_FILE G, g_F_NOT_A_FILE_code G⟩
            · -- pc 25: f
              refine own_aload X22 hx hby d1_28 rfl rfl rfl ?_
              refine own_ret X22 hx hby hret hlk d1_30 (.ref a_NOT_EMPTY) rfl (Or.inr (Or.inr ⟨rfl, rfl, rfl⟩)) (by decide) (by decide) ?_
              rw [e22]
              subst hc23
              exact ⟨_, rfl, rfl, E4, g_E_NOT_EMPTY G, g_F_NOT_EMPTY_code G⟩
          · -- pc 25: f
            refine own_aload X19 hx hby d1_28 rfl rfl rfl ?_
            refine own_ret X19 hx hby hret hlk d1_30 (.ref a_EXISTS) rfl (Or.inr (Or.inr ⟨rfl, rfl, rfl⟩)) (by decide) (by decide) ?_
            rw [e19]
            subst hc20
            exact ⟨_, rfl, rfl, E4, g_E_EXISTS G, g_F_EXISTS_code G⟩
        · -- pc 25: f
          refine own_aload X16 hx hby d1_28 rfl rfl rfl ?_
          refine own_ret X16 hx hby hret hlk d1_30 (.ref a_INVALID_NAME) rfl (Or.inr (Or.inr ⟨rfl, rfl, rfl⟩)) (by decide) (by decide) ?_
          rw [e16]
          subst hc17
          exact ⟨_, rfl, rfl, E4, g_E_INVALID_NAME G, g_F_INVALID_NAME_code G⟩
      · -- pc 25: f
        refine own_aload X13 hx hby d1_28 rfl rfl rfl ?_
        refine own_ret X13 hx hby hret hlk d1_30 (.ref a_NODE_DELETED) rfl (Or.inr (Or.inr ⟨rfl, rfl, rfl⟩)) (by decide) (by decide) ?_
        rw [e13]
        subst hc14
        exact ⟨_, rfl, rfl, E4, g_E_NODE_DELETED G, g_F_NODE_DELETED_code G⟩
    · -- pc 25: f
      refine own_aload X10 hx hby d1_28 rfl rfl rfl ?_
      refine own_ret X10 hx hby hret hlk d1_30 (.ref a_NO_SUCH_CELL) rfl (Or.inr (Or.inr ⟨rfl, rfl, rfl⟩)) (by decide) (by decide) ?_
      rw [e10]
      subst hc11
      exact ⟨_, rfl, rfl, E4, g_E_NO_SUCH_CELL G, g_F_NO_SUCH_CELL_code G⟩
  · -- pc 25: f
    refine own_aload X7 hx hby d1_28 rfl rfl rfl ?_
    refine own_ret X7 hx hby hret hlk d1_30 (.ref a_NO_SUCH_NODE) rfl (Or.inr (Or.inr ⟨rfl, rfl, rfl⟩)) (by decide) (by decide) ?_
    rw [e7]
    subst hc8
    exact ⟨_, rfl, rfl, E4, g_E_NO_SUCH_NODE G, g_F_NO_SUCH_NODE_code G⟩
set_option maxRecDepth 65536 in
set_option maxHeartbeats 40000000 in
theorem rm3 (l : Launch) (Z : State) (a0 : Array Value) (hw : ∀ d ∈ tables_1, d.before a0 Z = true) (x0 : Addr) (h0 : Heap) (k : Int32) (F : Fld Z h0 x0 "com/example/portunus/portunus/model/ErrorCode" "code" "I" (.int k)) :
    OwnMet l Z (⟨"com/example/portunus/portunus/model/ErrorCode", "code", "()I"⟩ : MethodName) prog_97_method_4_code 1 (some .int) [] ({ frames := 0, cells := 0, slots := 0, locals := 0 } : Room) #[(.ref x0)] h0 (fun v h L => v = some (.int k) ∧ L = [] ∧ h = h0) := by
  refine own_body (plainFor_of_name pn_0) (fun m => ef_3 m x0) ?_
  intro p e s m below meth c s₁ X0 hx hby hml hown hnm hret hlk hZ e0
  replace hown : s.vm.findClass "com/example/portunus/portunus/model/ErrorCode" = some m.cls := hown
  replace hml : c.maxLocals = 1 := hml
  show Ends p.tables e below _ (s₁.setTop (mkF m 0 #[.val (.ref x0)] []))
  refine own_aloadN X0 hx hby d3_0 rfl rfl rfl ?_
  refine own_getfield X0 hx hby hZ hown (host := "") (Or.inl (hw _ tw_45)) Via.refl e0 F d3_1 rfl (fun T82 X82 e82 => ?_)
  refine own_ret X82 hx hby hret hlk d3_4 (.int k) rfl (Or.inl ⟨rfl, by simp, _, rfl⟩) (by decide) (by decide) ?_
  exact ⟨rfl, rfl, e82⟩
set_option maxRecDepth 65536 in
set_option maxHeartbeats 40000000 in
theorem rm0 (l : Launch) (Z : State) (a0 : Array Value) (hw : ∀ d ∈ tables_1, d.before a0 Z = true) (x0 : Int32) (h0 : Heap) (n0 : Nat) {a__VALUES a_NO_SUCH_NODE a_NO_SUCH_CELL a_NODE_DELETED a_INVALID_NAME a_EXISTS a_NOT_EMPTY a_NOT_A_FILE a_NOT_A_DIRECTORY a_GENERATION_MISMATCH a_TOO_LARGE a_ROOT_NOT_DELETABLE a_INVALID_HANDLE a_BAD_REQUEST a_UNAVAILABLE a_LOCK_HELD a_LOCK_NOT_HELD a_NOT_OPENED_FOR_USE a_SESSION_EXPIRED a_NO_MASTER a_WRONG_EPOCH a_INVALID_SEQUENCER a_POISONED a_WITHDRAWN a_MEMBERSHIP_REFUSED a_PERMISSION_DENIED : Addr} (G : OwnG Z a__VALUES a_NO_SUCH_NODE a_NO_SUCH_CELL a_NODE_DELETED a_INVALID_NAME a_EXISTS a_NOT_EMPTY a_NOT_A_FILE a_NOT_A_DIRECTORY a_GENERATION_MISMATCH a_TOO_LARGE a_ROOT_NOT_DELETABLE a_INVALID_HANDLE a_BAD_REQUEST a_UNAVAILABLE a_LOCK_HELD a_LOCK_NOT_HELD a_NOT_OPENED_FOR_USE a_SESSION_EXPIRED a_NO_MASTER a_WRONG_EPOCH a_INVALID_SEQUENCER a_POISONED a_WITHDRAWN a_MEMBERSHIP_REFUSED a_PERMISSION_DENIED) (O : Ext Z.heap h0) :
    OwnMet l Z x code maxLocals ret tables_1 room_1 #[(.int x0)] h0 (fun v h L => v = some (.int 1) ∧ Fr n0 L) := by
  refine own_body (plainFor_of_name pn_1) (fun m => ef_0 m x0) ?_
  intro p e s m below meth c s₁ X0 hx hby hml hown hnm hret hlk hZ e0
  replace hown : s.vm.findClass "com/example/portunus/portunus/model/ErrorCodeFromCodePinLaw" = some m.cls := hown
  replace hml : c.maxLocals = 3 := hml
  have N0 := Fr.nil n0
  show Ends p.tables e below _ (s₁.setTop (mkF m 0 #[.val (.int x0), .unset, .unset] []))
  refine own_iconst X0 hx hby at_0 rfl (1 : Int32) rfl ?_
  refine own_iloadN X0 hx hby at_1 rfl rfl ?_
  refine own_ldcI X0 hx hby hZ hown (hw _ tw_0) at_2 rfl ?_
  refine own_iand X0 hx hby at_4 rfl ?_
  refine own_bipush X0 hx hby at_5 rfl (25 : Int32) rfl ?_
  refine own_irem X0 hx hby at_7 rfl (by decide) ?_
  refine own_iadd X0 hx hby at_8 rfl ?_
  refine own_istoreN X0 hx hby at_9 rfl #[.val (.int x0), .val (.int ((1 : Int32) + ((x0 &&& (2147483647 : Int32)) % (25 : Int32)))), .unset] rfl ?_
  refine own_iloadN X0 hx hby at_10 rfl rfl ?_
  refine own_static X0 hx hby hZ (argsL := [(.int ((1 : Int32) + ((x0 &&& (2147483647 : Int32)) % (25 : Int32))))]) (rest := []) hown (hw _ tw_1) (hw _ tw_2) (hw _ tw_3) (hw _ tw_4) (by decide) (rm1 l Z a0 hw ((1 : Int32) + ((x0 &&& (2147483647 : Int32)) % (25 : Int32))) h0 G O (own_rng _).1 (own_rng _).2) e0 (by rw [hml]; rfl) pd_1 rfl (by decide) (W := 0) (Nat.le_refl _) (by decide) (by decide) (by decide) at_11 rfl rfl (fun v83 T83 L83 X83 hQ83 => ?_)
  obtain ⟨r83, rfl, rfl, E83, A83, F83⟩ := hQ83
  show Ends p.tables e below _ (T83.setTop (mkF m 14 #[.val (.int x0), .val (.int ((1 : Int32) + ((x0 &&& (2147483647 : Int32)) % (25 : Int32)))), .unset] [(.ref r83)]))
  refine own_astoreN X83 hx hby at_14 rfl #[.val (.int x0), .val (.int ((1 : Int32) + ((x0 &&& (2147483647 : Int32)) % (25 : Int32)))), .val (.ref r83)] rfl rfl ?_
  refine own_aloadN X83 hx hby at_15 rfl rfl rfl ?_
  refine own_ifnullNo X83 hx hby at_16 rfl ?_
  refine own_aloadN X83 hx hby at_19 rfl rfl rfl ?_
  have f85 := (own_ext O E83)
  refine own_virtual X83 hx hby hZ (Cn := "com/example/portunus/portunus/model/ErrorCode") (a := r83) (argsL := []) (rest := []) hown (hw _ tw_47) (hw _ tw_48) (hw _ tw_50) (hw _ tw_49) (hw _ tw_3) (hw _ tw_51) (by decide) (rm3 l Z a0 hw r83 T83.heap ((1 : Int32) + ((x0 &&& (2147483647 : Int32)) % (25 : Int32))) (F83.ext f85)) (A83.ext f85) rfl (by rw [hml]; rfl) pd_2 rfl (by decide) (W := 0) (Nat.le_refl _) (by decide) (by decide) (by decide) at_20 rfl rfl (fun v84 T84 L84 X84 hQ84 => ?_)
  obtain ⟨rfl, rfl, e84⟩ := hQ84
  show Ends p.tables e below _ (T84.setTop (mkF m 23 #[.val (.int x0), .val (.int ((1 : Int32) + ((x0 &&& (2147483647 : Int32)) % (25 : Int32)))), .val (.ref r83)] [(.int ((1 : Int32) + ((x0 &&& (2147483647 : Int32)) % (25 : Int32))))]))
  refine own_iloadN X84 hx hby at_23 rfl rfl ?_
  refine own_icmp_ne X84 hx hby at_24 (pcY := 31) (pcN := 27) (by decide) rfl (fun (hc86 : ¬ ((1 : Int32) + ((x0 &&& (2147483647 : Int32)) % (25 : Int32))) = ((1 : Int32) + ((x0 &&& (2147483647 : Int32)) % (25 : Int32)))) => False.elim (by exact hc86 rfl)) (fun (hc86 : ((1 : Int32) + ((x0 &&& (2147483647 : Int32)) % (25 : Int32))) = ((1 : Int32) + ((x0 &&& (2147483647 : Int32)) % (25 : Int32)))) => ?_)
  refine own_iconst X84 hx hby at_27 rfl (1 : Int32) rfl ?_
  refine own_goto X84 hx hby at_28 (pc' := 32) (by decide) ?_
  refine own_ret X84 hx hby hret hlk at_32 (.int (1 : Int32)) rfl (Or.inl ⟨rfl, by simp, _, rfl⟩) (by decide) (by decide) ?_
  exact ⟨rfl, (Fr.app (Fr.app N0 (Fr.nil _)) (Fr.nil _))⟩
set_option maxRecDepth 65536 in
set_option maxHeartbeats 40000000 in
theorem comes_1 {Post : Tables → Env → Array Value → State → Outcome → State → Prop} (hpost : ∀ tb e args s v u, (limb_1_1.after args s (.returned v) u = true ∧ limb_1_2.after args s (.returned v) u = true ∧ True) → FrameEnd s (.returned v) u (Jvm.fieldLocs frame_1_writes args s ++ Jvm.arrayLocs frame_1_arrays args s ++ Jvm.staticLocs frame_1_statics s) 16 128 → Post tb e args s (.returned v) u) :
    ArmFor flags0 classFile x code maxLocals ret World_1 tables_1 room_1 Calls_1 rest_1 Pre_1 Post := by
  intro l hfl _ _ p e ha hc hk s m args below hf hA hF happ hP
  obtain ⟨hcalls, hrest, hpre⟩ := hP
  obtain ⟨-, -, -, hnamed, -, -, -, hat⟩ := (Spec.applies_iff hf).mp happ
  obtain ⟨hg, hn⟩ := and_e (Cond.before_iff.mp (show (Jvm.Cond.and given_1 narrow_1).before args s = true from hpre))
  obtain ⟨hcount, hg0⟩ := and_e hg
  have hv0 := hg0
  obtain ⟨w0, rfl⟩ : ∃ w0 : Value, args = #[w0] := by
    have hs : args.size = 1 := by simpa [Cond.value, given_1] using hcount
    obtain ⟨L⟩ := args
    match L, hs with
    | [w0], _ => exact ⟨w0, rfl⟩
  have hw := fun d (hd : d ∈ tables_1) => atoms_spec (ws := Jvm.Cond.code x code maxLocals ret :: tables_1) hat d (List.mem_cons_of_mem _ hd)
  have hfit : Fit s := fun {y c} hc i hi => by
    obtain ⟨ha, rfl⟩ := Array.getElem?_eq_some_iff.mp hc
    have q := List.all_eq_true.mp ((Array.all_eq_true_iff_forall_mem.mp hF) _ (Array.getElem_mem ha)) i (List.mem_range.mpr hi)
    simpa [Array.getElem?_eq_getElem hi] using q
  obtain ⟨i0, ei0⟩ := is_v hv0
  obtain rfl : w0 = (.int i0) := Option.some.inj ei0
  obtain ⟨n0, hn0⟩ := and_e hn
  obtain ⟨n1, hn1⟩ := and_e hn0
  obtain ⟨n2, hn2⟩ := and_e hn1
  obtain ⟨n3, hn3⟩ := and_e hn2
  obtain ⟨n4, hn4⟩ := and_e hn3
  obtain ⟨n5, hn5⟩ := and_e hn4
  obtain ⟨n6, hn6⟩ := and_e hn5
  obtain ⟨n7, hn7⟩ := and_e hn6
  obtain ⟨n8, hn8⟩ := and_e hn7
  obtain ⟨n9, hn9⟩ := and_e hn8
  obtain ⟨n10, hn10⟩ := and_e hn9
  obtain ⟨n11, hn11⟩ := and_e hn10
  obtain ⟨n12, hn12⟩ := and_e hn11
  obtain ⟨n13, hn13⟩ := and_e hn12
  obtain ⟨n14, hn14⟩ := and_e hn13
  obtain ⟨n15, hn15⟩ := and_e hn14
  obtain ⟨n16, hn16⟩ := and_e hn15
  obtain ⟨n17, hn17⟩ := and_e hn16
  obtain ⟨n18, hn18⟩ := and_e hn17
  obtain ⟨n19, hn19⟩ := and_e hn18
  obtain ⟨n20, hn20⟩ := and_e hn19
  obtain ⟨n21, hn21⟩ := and_e hn20
  obtain ⟨n22, hn22⟩ := and_e hn21
  obtain ⟨n23, hn23⟩ := and_e hn22
  obtain ⟨n24, hn24⟩ := and_e hn23
  obtain ⟨n25, hn25⟩ := and_e hn24
  obtain ⟨n26, hn26⟩ := and_e hn25
  obtain ⟨n27, hn27⟩ := and_e hn26
  obtain ⟨n28, hn28⟩ := and_e hn27
  obtain ⟨n29, hn29⟩ := and_e hn28
  obtain ⟨n30, hn30⟩ := and_e hn29
  obtain ⟨n31, hn31⟩ := and_e hn30
  obtain ⟨n32, hn32⟩ := and_e hn31
  obtain ⟨n33, hn33⟩ := and_e hn32
  obtain ⟨n34, hn34⟩ := and_e hn33
  obtain ⟨n35, hn35⟩ := and_e hn34
  obtain ⟨n36, hn36⟩ := and_e hn35
  obtain ⟨n37, hn37⟩ := and_e hn36
  obtain ⟨n38, hn38⟩ := and_e hn37
  obtain ⟨n39, hn39⟩ := and_e hn38
  obtain ⟨n40, hn40⟩ := and_e hn39
  obtain ⟨n41, hn41⟩ := and_e hn40
  obtain ⟨n42, hn42⟩ := and_e hn41
  obtain ⟨n43, hn43⟩ := and_e hn42
  obtain ⟨n44, hn44⟩ := and_e hn43
  obtain ⟨n45, hn45⟩ := and_e hn44
  obtain ⟨n46, hn46⟩ := and_e hn45
  obtain ⟨n47, hn47⟩ := and_e hn46
  obtain ⟨n48, hn48⟩ := and_e hn47
  obtain ⟨n49, hn49⟩ := and_e hn48
  obtain ⟨n50, hn50⟩ := and_e hn49
  obtain ⟨n51, hn51⟩ := and_e hn50
  obtain ⟨n52, hn52⟩ := and_e hn51
  obtain ⟨n53, hn53⟩ := and_e hn52
  obtain ⟨n54, hn54⟩ := and_e hn53
  obtain ⟨n55, hn55⟩ := and_e hn54
  obtain ⟨n56, hn56⟩ := and_e hn55
  obtain ⟨n57, hn57⟩ := and_e hn56
  obtain ⟨n58, hn58⟩ := and_e hn57
  obtain ⟨n59, hn59⟩ := and_e hn58
  obtain ⟨n60, hn60⟩ := and_e hn59
  obtain ⟨n61, hn61⟩ := and_e hn60
  obtain ⟨n62, hn62⟩ := and_e hn61
  obtain ⟨n63, hn63⟩ := and_e hn62
  obtain ⟨n64, hn64⟩ := and_e hn63
  obtain ⟨n65, hn65⟩ := and_e hn64
  obtain ⟨n66, hn66⟩ := and_e hn65
  obtain ⟨n67, hn67⟩ := and_e hn66
  obtain ⟨n68, hn68⟩ := and_e hn67
  obtain ⟨n69, hn69⟩ := and_e hn68
  obtain ⟨n70, hn70⟩ := and_e hn69
  obtain ⟨n71, hn71⟩ := and_e hn70
  obtain ⟨n72, hn72⟩ := and_e hn71
  obtain ⟨n73, hn73⟩ := and_e hn72
  obtain ⟨n74, hn74⟩ := and_e hn73
  obtain ⟨n75, hn75⟩ := and_e hn74
  obtain ⟨n76, hn76⟩ := and_e hn75
  have n77 := hn76
  obtain ⟨a__VALUES, ev__VALUES⟩ := arr_v n0
  have S__VALUES : Sta s s.heap "com/example/portunus/portunus/model/ErrorCode" "$VALUES" "[Lcom/example/portunus/portunus/model/ErrorCode;" (.ref a__VALUES) := Sta.start ev__VALUES (Or.inr ⟨(hw _ tw_3), (hw _ tw_9)⟩)
  have E__VALUES : Exa s s.heap a__VALUES "[Lcom/example/portunus/portunus/model/ErrorCode;" := Exa.start ev__VALUES n1
  obtain ⟨a_NO_SUCH_NODE, ev_NO_SUCH_NODE⟩ := exa_v n3
  have S_NO_SUCH_NODE : Sta s s.heap "com/example/portunus/portunus/model/ErrorCode" "NO_SUCH_NODE" "Lcom/example/portunus/portunus/model/ErrorCode;" (.ref a_NO_SUCH_NODE) := Sta.start ev_NO_SUCH_NODE (Or.inr ⟨(hw _ tw_3), (hw _ tw_17)⟩)
  have E_NO_SUCH_NODE : Exa s s.heap a_NO_SUCH_NODE "com/example/portunus/portunus/model/ErrorCode" := Exa.start ev_NO_SUCH_NODE n3
  obtain ⟨a_NO_SUCH_CELL, ev_NO_SUCH_CELL⟩ := exa_v n5
  have S_NO_SUCH_CELL : Sta s s.heap "com/example/portunus/portunus/model/ErrorCode" "NO_SUCH_CELL" "Lcom/example/portunus/portunus/model/ErrorCode;" (.ref a_NO_SUCH_CELL) := Sta.start ev_NO_SUCH_CELL (Or.inr ⟨(hw _ tw_3), (hw _ tw_18)⟩)
  have E_NO_SUCH_CELL : Exa s s.heap a_NO_SUCH_CELL "com/example/portunus/portunus/model/ErrorCode" := Exa.start ev_NO_SUCH_CELL n5
  obtain ⟨a_NODE_DELETED, ev_NODE_DELETED⟩ := exa_v n7
  have S_NODE_DELETED : Sta s s.heap "com/example/portunus/portunus/model/ErrorCode" "NODE_DELETED" "Lcom/example/portunus/portunus/model/ErrorCode;" (.ref a_NODE_DELETED) := Sta.start ev_NODE_DELETED (Or.inr ⟨(hw _ tw_3), (hw _ tw_19)⟩)
  have E_NODE_DELETED : Exa s s.heap a_NODE_DELETED "com/example/portunus/portunus/model/ErrorCode" := Exa.start ev_NODE_DELETED n7
  obtain ⟨a_INVALID_NAME, ev_INVALID_NAME⟩ := exa_v n9
  have S_INVALID_NAME : Sta s s.heap "com/example/portunus/portunus/model/ErrorCode" "INVALID_NAME" "Lcom/example/portunus/portunus/model/ErrorCode;" (.ref a_INVALID_NAME) := Sta.start ev_INVALID_NAME (Or.inr ⟨(hw _ tw_3), (hw _ tw_20)⟩)
  have E_INVALID_NAME : Exa s s.heap a_INVALID_NAME "com/example/portunus/portunus/model/ErrorCode" := Exa.start ev_INVALID_NAME n9
  obtain ⟨a_EXISTS, ev_EXISTS⟩ := exa_v n11
  have S_EXISTS : Sta s s.heap "com/example/portunus/portunus/model/ErrorCode" "EXISTS" "Lcom/example/portunus/portunus/model/ErrorCode;" (.ref a_EXISTS) := Sta.start ev_EXISTS (Or.inr ⟨(hw _ tw_3), (hw _ tw_21)⟩)
  have E_EXISTS : Exa s s.heap a_EXISTS "com/example/portunus/portunus/model/ErrorCode" := Exa.start ev_EXISTS n11
  obtain ⟨a_NOT_EMPTY, ev_NOT_EMPTY⟩ := exa_v n13
  have S_NOT_EMPTY : Sta s s.heap "com/example/portunus/portunus/model/ErrorCode" "NOT_EMPTY" "Lcom/example/portunus/portunus/model/ErrorCode;" (.ref a_NOT_EMPTY) := Sta.start ev_NOT_EMPTY (Or.inr ⟨(hw _ tw_3), (hw _ tw_22)⟩)
  have E_NOT_EMPTY : Exa s s.heap a_NOT_EMPTY "com/example/portunus/portunus/model/ErrorCode" := Exa.start ev_NOT_EMPTY n13
  obtain ⟨a_NOT_A_FILE, ev_NOT_A_FILE⟩ := exa_v n15
  have S_NOT_A_FILE : Sta s s.heap "com/example/portunus/portunus/model/ErrorCode" "NOT_A_FILE" "Lcom/example/portunus/portunus/model/ErrorCode;" (.ref a_NOT_A_FILE) := Sta.start ev_NOT_A_FILE (Or.inr ⟨(hw _ tw_3), (hw _ tw_23)⟩)
  have E_NOT_A_FILE : Exa s s.heap a_NOT_A_FILE "com/example/portunus/portunus/model/ErrorCode" := Exa.start ev_NOT_A_FILE n15
  obtain ⟨a_NOT_A_DIRECTORY, ev_NOT_A_DIRECTORY⟩ := exa_v n17
  have S_NOT_A_DIRECTORY : Sta s s.heap "com/example/portunus/portunus/model/ErrorCode" "NOT_A_DIRECTORY" "Lcom/example/portunus/portunus/model/ErrorCode;" (.ref a_NOT_A_DIRECTORY) := Sta.start ev_NOT_A_DIRECTORY (Or.inr ⟨(hw _ tw_3), (hw _ tw_24)⟩)
  have E_NOT_A_DIRECTORY : Exa s s.heap a_NOT_A_DIRECTORY "com/example/portunus/portunus/model/ErrorCode" := Exa.start ev_NOT_A_DIRECTORY n17
  obtain ⟨a_GENERATION_MISMATCH, ev_GENERATION_MISMATCH⟩ := exa_v n19
  have S_GENERATION_MISMATCH : Sta s s.heap "com/example/portunus/portunus/model/ErrorCode" "GENERATION_MISMATCH" "Lcom/example/portunus/portunus/model/ErrorCode;" (.ref a_GENERATION_MISMATCH) := Sta.start ev_GENERATION_MISMATCH (Or.inr ⟨(hw _ tw_3), (hw _ tw_25)⟩)
  have E_GENERATION_MISMATCH : Exa s s.heap a_GENERATION_MISMATCH "com/example/portunus/portunus/model/ErrorCode" := Exa.start ev_GENERATION_MISMATCH n19
  obtain ⟨a_TOO_LARGE, ev_TOO_LARGE⟩ := exa_v n21
  have S_TOO_LARGE : Sta s s.heap "com/example/portunus/portunus/model/ErrorCode" "TOO_LARGE" "Lcom/example/portunus/portunus/model/ErrorCode;" (.ref a_TOO_LARGE) := Sta.start ev_TOO_LARGE (Or.inr ⟨(hw _ tw_3), (hw _ tw_26)⟩)
  have E_TOO_LARGE : Exa s s.heap a_TOO_LARGE "com/example/portunus/portunus/model/ErrorCode" := Exa.start ev_TOO_LARGE n21
  obtain ⟨a_ROOT_NOT_DELETABLE, ev_ROOT_NOT_DELETABLE⟩ := exa_v n23
  have S_ROOT_NOT_DELETABLE : Sta s s.heap "com/example/portunus/portunus/model/ErrorCode" "ROOT_NOT_DELETABLE" "Lcom/example/portunus/portunus/model/ErrorCode;" (.ref a_ROOT_NOT_DELETABLE) := Sta.start ev_ROOT_NOT_DELETABLE (Or.inr ⟨(hw _ tw_3), (hw _ tw_27)⟩)
  have E_ROOT_NOT_DELETABLE : Exa s s.heap a_ROOT_NOT_DELETABLE "com/example/portunus/portunus/model/ErrorCode" := Exa.start ev_ROOT_NOT_DELETABLE n23
  obtain ⟨a_INVALID_HANDLE, ev_INVALID_HANDLE⟩ := exa_v n25
  have S_INVALID_HANDLE : Sta s s.heap "com/example/portunus/portunus/model/ErrorCode" "INVALID_HANDLE" "Lcom/example/portunus/portunus/model/ErrorCode;" (.ref a_INVALID_HANDLE) := Sta.start ev_INVALID_HANDLE (Or.inr ⟨(hw _ tw_3), (hw _ tw_28)⟩)
  have E_INVALID_HANDLE : Exa s s.heap a_INVALID_HANDLE "com/example/portunus/portunus/model/ErrorCode" := Exa.start ev_INVALID_HANDLE n25
  obtain ⟨a_BAD_REQUEST, ev_BAD_REQUEST⟩ := exa_v n27
  have S_BAD_REQUEST : Sta s s.heap "com/example/portunus/portunus/model/ErrorCode" "BAD_REQUEST" "Lcom/example/portunus/portunus/model/ErrorCode;" (.ref a_BAD_REQUEST) := Sta.start ev_BAD_REQUEST (Or.inr ⟨(hw _ tw_3), (hw _ tw_29)⟩)
  have E_BAD_REQUEST : Exa s s.heap a_BAD_REQUEST "com/example/portunus/portunus/model/ErrorCode" := Exa.start ev_BAD_REQUEST n27
  obtain ⟨a_UNAVAILABLE, ev_UNAVAILABLE⟩ := exa_v n29
  have S_UNAVAILABLE : Sta s s.heap "com/example/portunus/portunus/model/ErrorCode" "UNAVAILABLE" "Lcom/example/portunus/portunus/model/ErrorCode;" (.ref a_UNAVAILABLE) := Sta.start ev_UNAVAILABLE (Or.inr ⟨(hw _ tw_3), (hw _ tw_30)⟩)
  have E_UNAVAILABLE : Exa s s.heap a_UNAVAILABLE "com/example/portunus/portunus/model/ErrorCode" := Exa.start ev_UNAVAILABLE n29
  obtain ⟨a_LOCK_HELD, ev_LOCK_HELD⟩ := exa_v n31
  have S_LOCK_HELD : Sta s s.heap "com/example/portunus/portunus/model/ErrorCode" "LOCK_HELD" "Lcom/example/portunus/portunus/model/ErrorCode;" (.ref a_LOCK_HELD) := Sta.start ev_LOCK_HELD (Or.inr ⟨(hw _ tw_3), (hw _ tw_31)⟩)
  have E_LOCK_HELD : Exa s s.heap a_LOCK_HELD "com/example/portunus/portunus/model/ErrorCode" := Exa.start ev_LOCK_HELD n31
  obtain ⟨a_LOCK_NOT_HELD, ev_LOCK_NOT_HELD⟩ := exa_v n33
  have S_LOCK_NOT_HELD : Sta s s.heap "com/example/portunus/portunus/model/ErrorCode" "LOCK_NOT_HELD" "Lcom/example/portunus/portunus/model/ErrorCode;" (.ref a_LOCK_NOT_HELD) := Sta.start ev_LOCK_NOT_HELD (Or.inr ⟨(hw _ tw_3), (hw _ tw_32)⟩)
  have E_LOCK_NOT_HELD : Exa s s.heap a_LOCK_NOT_HELD "com/example/portunus/portunus/model/ErrorCode" := Exa.start ev_LOCK_NOT_HELD n33
  obtain ⟨a_NOT_OPENED_FOR_USE, ev_NOT_OPENED_FOR_USE⟩ := exa_v n35
  have S_NOT_OPENED_FOR_USE : Sta s s.heap "com/example/portunus/portunus/model/ErrorCode" "NOT_OPENED_FOR_USE" "Lcom/example/portunus/portunus/model/ErrorCode;" (.ref a_NOT_OPENED_FOR_USE) := Sta.start ev_NOT_OPENED_FOR_USE (Or.inr ⟨(hw _ tw_3), (hw _ tw_33)⟩)
  have E_NOT_OPENED_FOR_USE : Exa s s.heap a_NOT_OPENED_FOR_USE "com/example/portunus/portunus/model/ErrorCode" := Exa.start ev_NOT_OPENED_FOR_USE n35
  obtain ⟨a_SESSION_EXPIRED, ev_SESSION_EXPIRED⟩ := exa_v n37
  have S_SESSION_EXPIRED : Sta s s.heap "com/example/portunus/portunus/model/ErrorCode" "SESSION_EXPIRED" "Lcom/example/portunus/portunus/model/ErrorCode;" (.ref a_SESSION_EXPIRED) := Sta.start ev_SESSION_EXPIRED (Or.inr ⟨(hw _ tw_3), (hw _ tw_34)⟩)
  have E_SESSION_EXPIRED : Exa s s.heap a_SESSION_EXPIRED "com/example/portunus/portunus/model/ErrorCode" := Exa.start ev_SESSION_EXPIRED n37
  obtain ⟨a_NO_MASTER, ev_NO_MASTER⟩ := exa_v n39
  have S_NO_MASTER : Sta s s.heap "com/example/portunus/portunus/model/ErrorCode" "NO_MASTER" "Lcom/example/portunus/portunus/model/ErrorCode;" (.ref a_NO_MASTER) := Sta.start ev_NO_MASTER (Or.inr ⟨(hw _ tw_3), (hw _ tw_35)⟩)
  have E_NO_MASTER : Exa s s.heap a_NO_MASTER "com/example/portunus/portunus/model/ErrorCode" := Exa.start ev_NO_MASTER n39
  obtain ⟨a_WRONG_EPOCH, ev_WRONG_EPOCH⟩ := exa_v n41
  have S_WRONG_EPOCH : Sta s s.heap "com/example/portunus/portunus/model/ErrorCode" "WRONG_EPOCH" "Lcom/example/portunus/portunus/model/ErrorCode;" (.ref a_WRONG_EPOCH) := Sta.start ev_WRONG_EPOCH (Or.inr ⟨(hw _ tw_3), (hw _ tw_36)⟩)
  have E_WRONG_EPOCH : Exa s s.heap a_WRONG_EPOCH "com/example/portunus/portunus/model/ErrorCode" := Exa.start ev_WRONG_EPOCH n41
  obtain ⟨a_INVALID_SEQUENCER, ev_INVALID_SEQUENCER⟩ := exa_v n43
  have S_INVALID_SEQUENCER : Sta s s.heap "com/example/portunus/portunus/model/ErrorCode" "INVALID_SEQUENCER" "Lcom/example/portunus/portunus/model/ErrorCode;" (.ref a_INVALID_SEQUENCER) := Sta.start ev_INVALID_SEQUENCER (Or.inr ⟨(hw _ tw_3), (hw _ tw_37)⟩)
  have E_INVALID_SEQUENCER : Exa s s.heap a_INVALID_SEQUENCER "com/example/portunus/portunus/model/ErrorCode" := Exa.start ev_INVALID_SEQUENCER n43
  obtain ⟨a_POISONED, ev_POISONED⟩ := exa_v n45
  have S_POISONED : Sta s s.heap "com/example/portunus/portunus/model/ErrorCode" "POISONED" "Lcom/example/portunus/portunus/model/ErrorCode;" (.ref a_POISONED) := Sta.start ev_POISONED (Or.inr ⟨(hw _ tw_3), (hw _ tw_38)⟩)
  have E_POISONED : Exa s s.heap a_POISONED "com/example/portunus/portunus/model/ErrorCode" := Exa.start ev_POISONED n45
  obtain ⟨a_WITHDRAWN, ev_WITHDRAWN⟩ := exa_v n47
  have S_WITHDRAWN : Sta s s.heap "com/example/portunus/portunus/model/ErrorCode" "WITHDRAWN" "Lcom/example/portunus/portunus/model/ErrorCode;" (.ref a_WITHDRAWN) := Sta.start ev_WITHDRAWN (Or.inr ⟨(hw _ tw_3), (hw _ tw_39)⟩)
  have E_WITHDRAWN : Exa s s.heap a_WITHDRAWN "com/example/portunus/portunus/model/ErrorCode" := Exa.start ev_WITHDRAWN n47
  obtain ⟨a_MEMBERSHIP_REFUSED, ev_MEMBERSHIP_REFUSED⟩ := exa_v n49
  have S_MEMBERSHIP_REFUSED : Sta s s.heap "com/example/portunus/portunus/model/ErrorCode" "MEMBERSHIP_REFUSED" "Lcom/example/portunus/portunus/model/ErrorCode;" (.ref a_MEMBERSHIP_REFUSED) := Sta.start ev_MEMBERSHIP_REFUSED (Or.inr ⟨(hw _ tw_3), (hw _ tw_40)⟩)
  have E_MEMBERSHIP_REFUSED : Exa s s.heap a_MEMBERSHIP_REFUSED "com/example/portunus/portunus/model/ErrorCode" := Exa.start ev_MEMBERSHIP_REFUSED n49
  obtain ⟨a_PERMISSION_DENIED, ev_PERMISSION_DENIED⟩ := exa_v n51
  have S_PERMISSION_DENIED : Sta s s.heap "com/example/portunus/portunus/model/ErrorCode" "PERMISSION_DENIED" "Lcom/example/portunus/portunus/model/ErrorCode;" (.ref a_PERMISSION_DENIED) := Sta.start ev_PERMISSION_DENIED (Or.inr ⟨(hw _ tw_3), (hw _ tw_41)⟩)
  have E_PERMISSION_DENIED : Exa s s.heap a_PERMISSION_DENIED "com/example/portunus/portunus/model/ErrorCode" := Exa.start ev_PERMISSION_DENIED n51
  have F_NO_SUCH_NODE_code : Fld s s.heap a_NO_SUCH_NODE "com/example/portunus/portunus/model/ErrorCode" "code" "I" (.int (1 : Int32)) := Fld.start ((fld_at ev_NO_SUCH_NODE).symm.trans (eqv_i (Term.int_eval _) n53))
  have F_NO_SUCH_CELL_code : Fld s s.heap a_NO_SUCH_CELL "com/example/portunus/portunus/model/ErrorCode" "code" "I" (.int (2 : Int32)) := Fld.start ((fld_at ev_NO_SUCH_CELL).symm.trans (eqv_i (Term.int_eval _) n54))
  have F_NODE_DELETED_code : Fld s s.heap a_NODE_DELETED "com/example/portunus/portunus/model/ErrorCode" "code" "I" (.int (3 : Int32)) := Fld.start ((fld_at ev_NODE_DELETED).symm.trans (eqv_i (Term.int_eval _) n55))
  have F_INVALID_NAME_code : Fld s s.heap a_INVALID_NAME "com/example/portunus/portunus/model/ErrorCode" "code" "I" (.int (4 : Int32)) := Fld.start ((fld_at ev_INVALID_NAME).symm.trans (eqv_i (Term.int_eval _) n56))
  have F_EXISTS_code : Fld s s.heap a_EXISTS "com/example/portunus/portunus/model/ErrorCode" "code" "I" (.int (5 : Int32)) := Fld.start ((fld_at ev_EXISTS).symm.trans (eqv_i (Term.int_eval _) n57))
  have F_NOT_EMPTY_code : Fld s s.heap a_NOT_EMPTY "com/example/portunus/portunus/model/ErrorCode" "code" "I" (.int (6 : Int32)) := Fld.start ((fld_at ev_NOT_EMPTY).symm.trans (eqv_i (Term.int_eval _) n58))
  have F_NOT_A_FILE_code : Fld s s.heap a_NOT_A_FILE "com/example/portunus/portunus/model/ErrorCode" "code" "I" (.int (7 : Int32)) := Fld.start ((fld_at ev_NOT_A_FILE).symm.trans (eqv_i (Term.int_eval _) n59))
  have F_NOT_A_DIRECTORY_code : Fld s s.heap a_NOT_A_DIRECTORY "com/example/portunus/portunus/model/ErrorCode" "code" "I" (.int (8 : Int32)) := Fld.start ((fld_at ev_NOT_A_DIRECTORY).symm.trans (eqv_i (Term.int_eval _) n60))
  have F_GENERATION_MISMATCH_code : Fld s s.heap a_GENERATION_MISMATCH "com/example/portunus/portunus/model/ErrorCode" "code" "I" (.int (9 : Int32)) := Fld.start ((fld_at ev_GENERATION_MISMATCH).symm.trans (eqv_i (Term.int_eval _) n61))
  have F_TOO_LARGE_code : Fld s s.heap a_TOO_LARGE "com/example/portunus/portunus/model/ErrorCode" "code" "I" (.int (10 : Int32)) := Fld.start ((fld_at ev_TOO_LARGE).symm.trans (eqv_i (Term.int_eval _) n62))
  have F_ROOT_NOT_DELETABLE_code : Fld s s.heap a_ROOT_NOT_DELETABLE "com/example/portunus/portunus/model/ErrorCode" "code" "I" (.int (11 : Int32)) := Fld.start ((fld_at ev_ROOT_NOT_DELETABLE).symm.trans (eqv_i (Term.int_eval _) n63))
  have F_INVALID_HANDLE_code : Fld s s.heap a_INVALID_HANDLE "com/example/portunus/portunus/model/ErrorCode" "code" "I" (.int (12 : Int32)) := Fld.start ((fld_at ev_INVALID_HANDLE).symm.trans (eqv_i (Term.int_eval _) n64))
  have F_BAD_REQUEST_code : Fld s s.heap a_BAD_REQUEST "com/example/portunus/portunus/model/ErrorCode" "code" "I" (.int (13 : Int32)) := Fld.start ((fld_at ev_BAD_REQUEST).symm.trans (eqv_i (Term.int_eval _) n65))
  have F_UNAVAILABLE_code : Fld s s.heap a_UNAVAILABLE "com/example/portunus/portunus/model/ErrorCode" "code" "I" (.int (14 : Int32)) := Fld.start ((fld_at ev_UNAVAILABLE).symm.trans (eqv_i (Term.int_eval _) n66))
  have F_LOCK_HELD_code : Fld s s.heap a_LOCK_HELD "com/example/portunus/portunus/model/ErrorCode" "code" "I" (.int (15 : Int32)) := Fld.start ((fld_at ev_LOCK_HELD).symm.trans (eqv_i (Term.int_eval _) n67))
  have F_LOCK_NOT_HELD_code : Fld s s.heap a_LOCK_NOT_HELD "com/example/portunus/portunus/model/ErrorCode" "code" "I" (.int (16 : Int32)) := Fld.start ((fld_at ev_LOCK_NOT_HELD).symm.trans (eqv_i (Term.int_eval _) n68))
  have F_NOT_OPENED_FOR_USE_code : Fld s s.heap a_NOT_OPENED_FOR_USE "com/example/portunus/portunus/model/ErrorCode" "code" "I" (.int (17 : Int32)) := Fld.start ((fld_at ev_NOT_OPENED_FOR_USE).symm.trans (eqv_i (Term.int_eval _) n69))
  have F_SESSION_EXPIRED_code : Fld s s.heap a_SESSION_EXPIRED "com/example/portunus/portunus/model/ErrorCode" "code" "I" (.int (18 : Int32)) := Fld.start ((fld_at ev_SESSION_EXPIRED).symm.trans (eqv_i (Term.int_eval _) n70))
  have F_NO_MASTER_code : Fld s s.heap a_NO_MASTER "com/example/portunus/portunus/model/ErrorCode" "code" "I" (.int (19 : Int32)) := Fld.start ((fld_at ev_NO_MASTER).symm.trans (eqv_i (Term.int_eval _) n71))
  have F_WRONG_EPOCH_code : Fld s s.heap a_WRONG_EPOCH "com/example/portunus/portunus/model/ErrorCode" "code" "I" (.int (20 : Int32)) := Fld.start ((fld_at ev_WRONG_EPOCH).symm.trans (eqv_i (Term.int_eval _) n72))
  have F_INVALID_SEQUENCER_code : Fld s s.heap a_INVALID_SEQUENCER "com/example/portunus/portunus/model/ErrorCode" "code" "I" (.int (21 : Int32)) := Fld.start ((fld_at ev_INVALID_SEQUENCER).symm.trans (eqv_i (Term.int_eval _) n73))
  have F_POISONED_code : Fld s s.heap a_POISONED "com/example/portunus/portunus/model/ErrorCode" "code" "I" (.int (22 : Int32)) := Fld.start ((fld_at ev_POISONED).symm.trans (eqv_i (Term.int_eval _) n74))
  have F_WITHDRAWN_code : Fld s s.heap a_WITHDRAWN "com/example/portunus/portunus/model/ErrorCode" "code" "I" (.int (23 : Int32)) := Fld.start ((fld_at ev_WITHDRAWN).symm.trans (eqv_i (Term.int_eval _) n75))
  have F_MEMBERSHIP_REFUSED_code : Fld s s.heap a_MEMBERSHIP_REFUSED "com/example/portunus/portunus/model/ErrorCode" "code" "I" (.int (24 : Int32)) := Fld.start ((fld_at ev_MEMBERSHIP_REFUSED).symm.trans (eqv_i (Term.int_eval _) n76))
  have F_PERMISSION_DENIED_code : Fld s s.heap a_PERMISSION_DENIED "com/example/portunus/portunus/model/ErrorCode" "code" "I" (.int (25 : Int32)) := Fld.start ((fld_at ev_PERMISSION_DENIED).symm.trans (eqv_i (Term.int_eval _) n77))
  have V__VALUES : ∃ k, Arv s s.heap a__VALUES k (Jvm.ClassFile.FieldType.object "com/example/portunus/portunus/model/ErrorCode") (25 : Int32) [(.ref a_NO_SUCH_NODE), (.ref a_NO_SUCH_CELL), (.ref a_NODE_DELETED), (.ref a_INVALID_NAME), (.ref a_EXISTS), (.ref a_NOT_EMPTY), (.ref a_NOT_A_FILE), (.ref a_NOT_A_DIRECTORY), (.ref a_GENERATION_MISMATCH), (.ref a_TOO_LARGE), (.ref a_ROOT_NOT_DELETABLE), (.ref a_INVALID_HANDLE), (.ref a_BAD_REQUEST), (.ref a_UNAVAILABLE), (.ref a_LOCK_HELD), (.ref a_LOCK_NOT_HELD), (.ref a_NOT_OPENED_FOR_USE), (.ref a_SESSION_EXPIRED), (.ref a_NO_MASTER), (.ref a_WRONG_EPOCH), (.ref a_INVALID_SEQUENCER), (.ref a_POISONED), (.ref a_WITHDRAWN), (.ref a_MEMBERSHIP_REFUSED), (.ref a_PERMISSION_DENIED)] .null := own_enumArr hfit ev__VALUES n0 n2 (by decide) rfl (fun cl hc => ⟨(elem_in (own_eqR ev_NO_SUCH_NODE n4) ev__VALUES (Term.int_eval _) hc).2, (elem_in (own_eqR ev_NO_SUCH_CELL n6) ev__VALUES (Term.int_eval _) hc).2, (elem_in (own_eqR ev_NODE_DELETED n8) ev__VALUES (Term.int_eval _) hc).2, (elem_in (own_eqR ev_INVALID_NAME n10) ev__VALUES (Term.int_eval _) hc).2, (elem_in (own_eqR ev_EXISTS n12) ev__VALUES (Term.int_eval _) hc).2, (elem_in (own_eqR ev_NOT_EMPTY n14) ev__VALUES (Term.int_eval _) hc).2, (elem_in (own_eqR ev_NOT_A_FILE n16) ev__VALUES (Term.int_eval _) hc).2, (elem_in (own_eqR ev_NOT_A_DIRECTORY n18) ev__VALUES (Term.int_eval _) hc).2, (elem_in (own_eqR ev_GENERATION_MISMATCH n20) ev__VALUES (Term.int_eval _) hc).2, (elem_in (own_eqR ev_TOO_LARGE n22) ev__VALUES (Term.int_eval _) hc).2, (elem_in (own_eqR ev_ROOT_NOT_DELETABLE n24) ev__VALUES (Term.int_eval _) hc).2, (elem_in (own_eqR ev_INVALID_HANDLE n26) ev__VALUES (Term.int_eval _) hc).2, (elem_in (own_eqR ev_BAD_REQUEST n28) ev__VALUES (Term.int_eval _) hc).2, (elem_in (own_eqR ev_UNAVAILABLE n30) ev__VALUES (Term.int_eval _) hc).2, (elem_in (own_eqR ev_LOCK_HELD n32) ev__VALUES (Term.int_eval _) hc).2, (elem_in (own_eqR ev_LOCK_NOT_HELD n34) ev__VALUES (Term.int_eval _) hc).2, (elem_in (own_eqR ev_NOT_OPENED_FOR_USE n36) ev__VALUES (Term.int_eval _) hc).2, (elem_in (own_eqR ev_SESSION_EXPIRED n38) ev__VALUES (Term.int_eval _) hc).2, (elem_in (own_eqR ev_NO_MASTER n40) ev__VALUES (Term.int_eval _) hc).2, (elem_in (own_eqR ev_WRONG_EPOCH n42) ev__VALUES (Term.int_eval _) hc).2, (elem_in (own_eqR ev_INVALID_SEQUENCER n44) ev__VALUES (Term.int_eval _) hc).2, (elem_in (own_eqR ev_POISONED n46) ev__VALUES (Term.int_eval _) hc).2, (elem_in (own_eqR ev_WITHDRAWN n48) ev__VALUES (Term.int_eval _) hc).2, (elem_in (own_eqR ev_MEMBERSHIP_REFUSED n50) ev__VALUES (Term.int_eval _) hc).2, (elem_in (own_eqR ev_PERMISSION_DENIED n52) ev__VALUES (Term.int_eval _) hc).2, trivial⟩)
  have G : OwnG s a__VALUES a_NO_SUCH_NODE a_NO_SUCH_CELL a_NODE_DELETED a_INVALID_NAME a_EXISTS a_NOT_EMPTY a_NOT_A_FILE a_NOT_A_DIRECTORY a_GENERATION_MISMATCH a_TOO_LARGE a_ROOT_NOT_DELETABLE a_INVALID_HANDLE a_BAD_REQUEST a_UNAVAILABLE a_LOCK_HELD a_LOCK_NOT_HELD a_NOT_OPENED_FOR_USE a_SESSION_EXPIRED a_NO_MASTER a_WRONG_EPOCH a_INVALID_SEQUENCER a_POISONED a_WITHDRAWN a_MEMBERSHIP_REFUSED a_PERMISSION_DENIED := ⟨S__VALUES, E__VALUES, S_NO_SUCH_NODE, E_NO_SUCH_NODE, S_NO_SUCH_CELL, E_NO_SUCH_CELL, S_NODE_DELETED, E_NODE_DELETED, S_INVALID_NAME, E_INVALID_NAME, S_EXISTS, E_EXISTS, S_NOT_EMPTY, E_NOT_EMPTY, S_NOT_A_FILE, E_NOT_A_FILE, S_NOT_A_DIRECTORY, E_NOT_A_DIRECTORY, S_GENERATION_MISMATCH, E_GENERATION_MISMATCH, S_TOO_LARGE, E_TOO_LARGE, S_ROOT_NOT_DELETABLE, E_ROOT_NOT_DELETABLE, S_INVALID_HANDLE, E_INVALID_HANDLE, S_BAD_REQUEST, E_BAD_REQUEST, S_UNAVAILABLE, E_UNAVAILABLE, S_LOCK_HELD, E_LOCK_HELD, S_LOCK_NOT_HELD, E_LOCK_NOT_HELD, S_NOT_OPENED_FOR_USE, E_NOT_OPENED_FOR_USE, S_SESSION_EXPIRED, E_SESSION_EXPIRED, S_NO_MASTER, E_NO_MASTER, S_WRONG_EPOCH, E_WRONG_EPOCH, S_INVALID_SEQUENCER, E_INVALID_SEQUENCER, S_POISONED, E_POISONED, S_WITHDRAWN, E_WITHDRAWN, S_MEMBERSHIP_REFUSED, E_MEMBERSHIP_REFUSED, S_PERMISSION_DENIED, E_PERMISSION_DENIED, F_NO_SUCH_NODE_code, F_NO_SUCH_CELL_code, F_NODE_DELETED_code, F_INVALID_NAME_code, F_EXISTS_code, F_NOT_EMPTY_code, F_NOT_A_FILE_code, F_NOT_A_DIRECTORY_code, F_GENERATION_MISMATCH_code, F_TOO_LARGE_code, F_ROOT_NOT_DELETABLE_code, F_INVALID_HANDLE_code, F_BAD_REQUEST_code, F_UNAVAILABLE_code, F_LOCK_HELD_code, F_LOCK_NOT_HELD_code, F_NOT_OPENED_FOR_USE_code, F_SESSION_EXPIRED_code, F_NO_MASTER_code, F_WRONG_EPOCH_code, F_INVALID_SEQUENCER_code, F_POISONED_code, F_WITHDRAWN_code, F_MEMBERSHIP_REFUSED_code, F_PERMISSION_DENIED_code, V__VALUES⟩
  obtain ⟨n, o, h1, h2, h3, _, L, rfl, ⟨rfl, N⟩, hq⟩ := rm0 l s _ hw i0 s.heap s.heap.size G ⟨Nat.le_refl _, fun _ _ q => q⟩ p e ha hc hk s m _ below hf ((Spec.applies_iff_loose hf).mp happ).1 ⟨rfl, State.Warmed39.refl s, rfl⟩ trivial
  refine ⟨n, _, h1, h2, h3, hpost _ _ _ _ _ _ ⟨Cond.after_iff.mpr rfl, Cond.after_iff.mpr (eq_i res_at (Term.int_eval (1)) rfl), trivial⟩ ⟨hq.1, hq.2.1, (hq.2.2.sift fun y hy => Or.inr (N y hy)).mono (by decide) (by decide)⟩⟩
theorem main_1_1 : Claimed_1_1 := comes_1 fun _ _ _ _ _ _ h hF => ⟨h.1, hF⟩
theorem main_1_2 : Claimed_1_2 := comes_1 fun _ _ _ _ _ _ h hF => ⟨h.2.1, hF⟩
end Jvm.Pilot.@@N@@
namespace Jvm.Pilot.@@N@@
open Jvm Jvm.ClassFile Sem Op Lib Jvm.Free Jvm.Stand Jvm.Pilot.@@N@@.Jvm.D
/-! MADE BY PROGRAM (witnessworld.py) out of the Statement's table words and the real class files: 13 classes; the members and pool entries that the words name. The judged class is class 1, her method 1. -/
namespace start1
open Jvm.ClassFile
def u (s : String) : CpInfo := .utf8 (stringToUtf16 s)
/-- a pool by its gaps: so many unusable entries, then the entry; so many at the end -/
def gap : Nat → List CpInfo → List CpInfo
  | 0, r => r
  | n + 1, r => .unusable :: gap n r
def poolList (es : List (Nat × CpInfo)) (last : Nat) : List CpInfo := es.foldr (fun e r => gap e.1 (e.2 :: r)) (gap last [])
def pool (es : List (Nat × CpInfo)) (last : Nat) : Array CpInfo := ⟨poolList es last⟩
def fileOf (pool : Array CpInfo) (this : Nat) (attrs : Array Attribute := #[]) (ms : Array MethodInfo := #[]) (fl : Nat := 33) (sup : Nat := 0) (ifs : Array Nat := #[]) (fds : Array FieldInfo := #[]) : ClassFile where
  minorVersion := 0
  majorVersion := 65
  constantPool := pool
  accessFlags := fl
  thisClass := this
  superClass := sup
  interfaces := ifs
  fields := fds
  methods := ms
  attributes := attrs
def plain (name : String) (sup : Option ClassId) : Class where
  name := name
  kind := .ordinary
  loader := none
  accessFlags := 33
  super := sup
  interfaces := #[]
  cf := none
  fields := #[]
  methods := #[]
  instanceTypes := #[]
  staticTypes := #[]
  resolved := #[]
  callSites := []
  init := .initialized
  statics := none
  mirror := none

def pool0 : Array CpInfo := pool [(5, u "<init>"), (0, u "()V"), (1, .class_ 10), (1, u "java/lang/Object"), (85, u "clone"), (0, u "()Ljava/lang/Object;")] 26

def k0m0 : Method := { name := "<init>", desc := "()V", sig := { parameters := [], returnType := none }, accessFlags := 1, code := none }
def k0m1 : Method := { name := "clone", desc := "()Ljava/lang/Object;", sig := { parameters := [], returnType := some (.object "java/lang/Object") }, accessFlags := 260, code := none }
/-- java/lang/Object -/
def k0 : Class := { plain "java/lang/Object" none with
  accessFlags := 33
  interfaces := #[]
  cf := some (fileOf pool0 8 #[] #[{ accessFlags := 1, nameIndex := 5, descriptorIndex := 6, attributes := #[] }, { accessFlags := 260, nameIndex := 96, descriptorIndex := 97, attributes := #[] }] 33 0 #[] #[])
  fields := #[]
  methods := #[k0m0, k0m1]
  instanceTypes := #[]
  staticTypes := #[]
  resolved := Array.replicate 124 none
  statics := none }

def pool1 : Array CpInfo := pool [(2, .class_ 4), (1, u "java/lang/Object"), (0, u "<init>"), (0, u "()V"), (0, .integer 2147483647), (0, .methodref 9 10), (0, .class_ 11), (0, .nameAndType 12 13), (0, u "com/example/portunus/portunus/model/ErrorCode"), (0, u "fromCode"), (0, u "(I)Lcom/example/portunus/portunus/model/ErrorCode;"), (0, .methodref 9 15), (0, .nameAndType 16 17), (0, u "code"), (0, u "()I"), (0, .class_ 19), (0, u "com/example/portunus/portunus/model/ErrorCodeFromCodePinLaw"), (2, u "law"), (0, u "(I)Z")] 3

def k1m0 : Method := { name := "<init>", desc := "()V", sig := { parameters := [], returnType := none }, accessFlags := 1, code := none }
def k1c1 : Code := { maxStack := 3, maxLocals := 3, code := code, exceptionTable := #[], attributes := #[] }
def k1m1 : Method := { name := "law", desc := "(I)Z", sig := { parameters := [.int], returnType := some .boolean }, accessFlags := 9, code := some k1c1 }
/-- com/example/portunus/portunus/model/ErrorCodeFromCodePinLaw -/
def k1 : Class := { plain "com/example/portunus/portunus/model/ErrorCodeFromCodePinLaw" (some 0) with
  accessFlags := 49
  interfaces := #[]
  cf := some (fileOf pool1 18 #[] #[{ accessFlags := 1, nameIndex := 5, descriptorIndex := 6, attributes := #[] }, { accessFlags := 9, nameIndex := 22, descriptorIndex := 23, attributes := #[] }] 49 2 #[] #[])
  fields := #[]
  methods := #[k1m0, k1m1]
  instanceTypes := #[]
  staticTypes := #[]
  resolved := Array.replicate 27 none
  statics := none }

def pool2 : Array CpInfo := pool [(1, .class_ 2), (0, u "java/lang/constant/Constable"), (0, .class_ 4), (0, u "java/lang/Object")] 6

/-- java/lang/constant/Constable -/
def k2 : Class := { plain "java/lang/constant/Constable" (some 0) with
  accessFlags := 1537
  interfaces := #[]
  cf := some (fileOf pool2 1 #[] #[] 1537 3 #[] #[])
  fields := #[]
  methods := #[]
  instanceTypes := #[]
  staticTypes := #[]
  resolved := Array.replicate 11 none
  statics := none }

def pool3 : Array CpInfo := pool [(1, .class_ 2), (0, u "java/lang/Comparable"), (0, .class_ 4), (0, u "java/lang/Object")] 7

/-- java/lang/Comparable -/
def k3 : Class := { plain "java/lang/Comparable" (some 0) with
  accessFlags := 1537
  interfaces := #[]
  cf := some (fileOf pool3 1 #[] #[] 1537 3 #[] #[])
  fields := #[]
  methods := #[]
  instanceTypes := #[]
  staticTypes := #[]
  resolved := Array.replicate 12 none
  statics := none }

def pool4 : Array CpInfo := pool [(1, .class_ 2), (0, u "java/io/Serializable"), (0, .class_ 4), (0, u "java/lang/Object")] 2

/-- java/io/Serializable -/
def k4 : Class := { plain "java/io/Serializable" (some 0) with
  accessFlags := 1537
  interfaces := #[]
  cf := some (fileOf pool4 1 #[] #[] 1537 3 #[] #[])
  fields := #[]
  methods := #[]
  instanceTypes := #[]
  staticTypes := #[]
  resolved := Array.replicate 7 none
  statics := none }

def pool5 : Array CpInfo := pool [(2, .class_ 4), (1, u "java/lang/Enum"), (0, u "name"), (0, u "Ljava/lang/String;"), (2, u "ordinal"), (0, u "I"), (1, .class_ 14), (1, u "java/lang/Object"), (4, u "hash"), (86, .class_ 108), (1, u "java/lang/Enum$EnumDesc"), (2, .class_ 112), (0, u "java/lang/constant/Constable"), (0, .class_ 114), (0, u "java/lang/Comparable"), (0, .class_ 116), (0, u "java/io/Serializable")] 87

/-- java/lang/Enum -/
def k5 : Class := { plain "java/lang/Enum" (some 0) with
  accessFlags := 1057
  interfaces := #[2, 3, 4]
  cf := some (fileOf pool5 2 #[.nestMembers #[106]] #[] 1057 12 #[111, 113, 115] #[{ accessFlags := 18, nameIndex := 5, descriptorIndex := 6, attributes := #[] }, { accessFlags := 18, nameIndex := 9, descriptorIndex := 10, attributes := #[] }, { accessFlags := 2, nameIndex := 19, descriptorIndex := 10, attributes := #[] }])
  fields := #[{ name := "name", type := (.object "java/lang/String"), accessFlags := 18, slot := 0, constantValue := 0 }, { name := "ordinal", type := .int, accessFlags := 18, slot := 1, constantValue := 0 }, { name := "hash", type := .int, accessFlags := 2, slot := 2, constantValue := 0 }]
  methods := #[]
  instanceTypes := #[(.object "java/lang/String"), .int, .int]
  staticTypes := #[]
  resolved := Array.replicate 204 none
  statics := none }

def pool6 : Array CpInfo := pool [(1, .class_ 2), (0, u "com/example/portunus/portunus/model/ErrorCode"), (2, u "NO_SUCH_NODE"), (0, u "Lcom/example/portunus/portunus/model/ErrorCode;"), (2, u "NO_SUCH_CELL"), (2, u "NODE_DELETED"), (2, u "INVALID_NAME"), (2, u "EXISTS"), (2, u "NOT_EMPTY"), (2, u "NOT_A_FILE"), (2, u "NOT_A_DIRECTORY"), (2, u "GENERATION_MISMATCH"), (2, u "TOO_LARGE"), (2, u "ROOT_NOT_DELETABLE"), (2, u "INVALID_HANDLE"), (2, u "BAD_REQUEST"), (2, u "UNAVAILABLE"), (2, u "LOCK_HELD"), (2, u "LOCK_NOT_HELD"), (2, u "NOT_OPENED_FOR_USE"), (2, u "SESSION_EXPIRED"), (2, u "NO_MASTER"), (2, u "WRONG_EPOCH"), (2, u "INVALID_SEQUENCER"), (2, u "POISONED"), (2, u "WITHDRAWN"), (2, u "MEMBERSHIP_REFUSED"), (2, u "PERMISSION_DENIED"), (0, .fieldref 1 80), (0, .nameAndType 81 82), (0, u "$VALUES"), (0, u "[Lcom/example/portunus/portunus/model/ErrorCode;"), (0, .methodref 84 85), (0, .class_ 82), (0, .nameAndType 86 87), (0, u "clone"), (0, u "()Ljava/lang/Object;"), (1, .class_ 91), (1, u "java/lang/Enum"), (6, .fieldref 1 99), (0, .nameAndType 100 101), (0, u "code"), (0, u "I"), (0, .methodref 1 103), (0, .nameAndType 104 105), (0, u "values"), (0, u "()[Lcom/example/portunus/portunus/model/ErrorCode;"), (46, u "()I"), (0, u "fromCode"), (0, u "(I)Lcom/example/portunus/portunus/model/ErrorCode;")] 21

def k6c0 : Code := { maxStack := 1, maxLocals := 0, code := prog_97_method_1_code, exceptionTable := #[], attributes := #[] }
def k6m0 : Method := { name := "values", desc := "()[Lcom/example/portunus/portunus/model/ErrorCode;", sig := { parameters := [], returnType := some (.array (.object "com/example/portunus/portunus/model/ErrorCode")) }, accessFlags := 9, code := some k6c0 }
def k6c1 : Code := { maxStack := 1, maxLocals := 1, code := prog_97_method_4_code, exceptionTable := #[], attributes := #[] }
def k6m1 : Method := { name := "code", desc := "()I", sig := { parameters := [], returnType := some .int }, accessFlags := 1, code := some k6c1 }
def k6c2 : Code := { maxStack := 3, maxLocals := 5, code := prog_97_method_5_code, exceptionTable := #[], attributes := #[] }
def k6m2 : Method := { name := "fromCode", desc := "(I)Lcom/example/portunus/portunus/model/ErrorCode;", sig := { parameters := [.int], returnType := some (.object "com/example/portunus/portunus/model/ErrorCode") }, accessFlags := 9, code := some k6c2 }
/-- com/example/portunus/portunus/model/ErrorCode -/
def k6 : Class := { plain "com/example/portunus/portunus/model/ErrorCode" (some 5) with
  accessFlags := 16433
  interfaces := #[]
  cf := some (fileOf pool6 1 #[] #[{ accessFlags := 9, nameIndex := 104, descriptorIndex := 105, attributes := #[] }, { accessFlags := 1, nameIndex := 100, descriptorIndex := 152, attributes := #[] }, { accessFlags := 9, nameIndex := 153, descriptorIndex := 154, attributes := #[] }] 16433 89 #[] #[{ accessFlags := 16409, nameIndex := 5, descriptorIndex := 6, attributes := #[] }, { accessFlags := 16409, nameIndex := 9, descriptorIndex := 6, attributes := #[] }, { accessFlags := 16409, nameIndex := 12, descriptorIndex := 6, attributes := #[] }, { accessFlags := 16409, nameIndex := 15, descriptorIndex := 6, attributes := #[] }, { accessFlags := 16409, nameIndex := 18, descriptorIndex := 6, attributes := #[] }, { accessFlags := 16409, nameIndex := 21, descriptorIndex := 6, attributes := #[] }, { accessFlags := 16409, nameIndex := 24, descriptorIndex := 6, attributes := #[] }, { accessFlags := 16409, nameIndex := 27, descriptorIndex := 6, attributes := #[] }, { accessFlags := 16409, nameIndex := 30, descriptorIndex := 6, attributes := #[] }, { accessFlags := 16409, nameIndex := 33, descriptorIndex := 6, attributes := #[] }, { accessFlags := 16409, nameIndex := 36, descriptorIndex := 6, attributes := #[] }, { accessFlags := 16409, nameIndex := 39, descriptorIndex := 6, attributes := #[] }, { accessFlags := 16409, nameIndex := 42, descriptorIndex := 6, attributes := #[] }, { accessFlags := 16409, nameIndex := 45, descriptorIndex := 6, attributes := #[] }, { accessFlags := 16409, nameIndex := 48, descriptorIndex := 6, attributes := #[] }, { accessFlags := 16409, nameIndex := 51, descriptorIndex := 6, attributes := #[] }, { accessFlags := 16409, nameIndex := 54, descriptorIndex := 6, attributes := #[] }, { accessFlags := 16409, nameIndex := 57, descriptorIndex := 6, attributes := #[] }, { accessFlags := 16409, nameIndex := 60, descriptorIndex := 6, attributes := #[] }, { accessFlags := 16409, nameIndex := 63, descriptorIndex := 6, attributes := #[] }, { accessFlags := 16409, nameIndex := 66, descriptorIndex := 6, attributes := #[] }, { accessFlags := 16409, nameIndex := 69, descriptorIndex := 6, attributes := #[] }, { accessFlags := 16409, nameIndex := 72, descriptorIndex := 6, attributes := #[] }, { accessFlags := 16409, nameIndex := 75, descriptorIndex := 6, attributes := #[] }, { accessFlags := 16409, nameIndex := 78, descriptorIndex := 6, attributes := #[] }, { accessFlags := 18, nameIndex := 100, descriptorIndex := 101, attributes := #[] }, { accessFlags := 4122, nameIndex := 81, descriptorIndex := 82, attributes := #[] }])
  fields := #[{ name := "NO_SUCH_NODE", type := (.object "com/example/portunus/portunus/model/ErrorCode"), accessFlags := 16409, slot := 0, constantValue := 0 }, { name := "NO_SUCH_CELL", type := (.object "com/example/portunus/portunus/model/ErrorCode"), accessFlags := 16409, slot := 1, constantValue := 0 }, { name := "NODE_DELETED", type := (.object "com/example/portunus/portunus/model/ErrorCode"), accessFlags := 16409, slot := 2, constantValue := 0 }, { name := "INVALID_NAME", type := (.object "com/example/portunus/portunus/model/ErrorCode"), accessFlags := 16409, slot := 3, constantValue := 0 }, { name := "EXISTS", type := (.object "com/example/portunus/portunus/model/ErrorCode"), accessFlags := 16409, slot := 4, constantValue := 0 }, { name := "NOT_EMPTY", type := (.object "com/example/portunus/portunus/model/ErrorCode"), accessFlags := 16409, slot := 5, constantValue := 0 }, { name := "NOT_A_FILE", type := (.object "com/example/portunus/portunus/model/ErrorCode"), accessFlags := 16409, slot := 6, constantValue := 0 }, { name := "NOT_A_DIRECTORY", type := (.object "com/example/portunus/portunus/model/ErrorCode"), accessFlags := 16409, slot := 7, constantValue := 0 }, { name := "GENERATION_MISMATCH", type := (.object "com/example/portunus/portunus/model/ErrorCode"), accessFlags := 16409, slot := 8, constantValue := 0 }, { name := "TOO_LARGE", type := (.object "com/example/portunus/portunus/model/ErrorCode"), accessFlags := 16409, slot := 9, constantValue := 0 }, { name := "ROOT_NOT_DELETABLE", type := (.object "com/example/portunus/portunus/model/ErrorCode"), accessFlags := 16409, slot := 10, constantValue := 0 }, { name := "INVALID_HANDLE", type := (.object "com/example/portunus/portunus/model/ErrorCode"), accessFlags := 16409, slot := 11, constantValue := 0 }, { name := "BAD_REQUEST", type := (.object "com/example/portunus/portunus/model/ErrorCode"), accessFlags := 16409, slot := 12, constantValue := 0 }, { name := "UNAVAILABLE", type := (.object "com/example/portunus/portunus/model/ErrorCode"), accessFlags := 16409, slot := 13, constantValue := 0 }, { name := "LOCK_HELD", type := (.object "com/example/portunus/portunus/model/ErrorCode"), accessFlags := 16409, slot := 14, constantValue := 0 }, { name := "LOCK_NOT_HELD", type := (.object "com/example/portunus/portunus/model/ErrorCode"), accessFlags := 16409, slot := 15, constantValue := 0 }, { name := "NOT_OPENED_FOR_USE", type := (.object "com/example/portunus/portunus/model/ErrorCode"), accessFlags := 16409, slot := 16, constantValue := 0 }, { name := "SESSION_EXPIRED", type := (.object "com/example/portunus/portunus/model/ErrorCode"), accessFlags := 16409, slot := 17, constantValue := 0 }, { name := "NO_MASTER", type := (.object "com/example/portunus/portunus/model/ErrorCode"), accessFlags := 16409, slot := 18, constantValue := 0 }, { name := "WRONG_EPOCH", type := (.object "com/example/portunus/portunus/model/ErrorCode"), accessFlags := 16409, slot := 19, constantValue := 0 }, { name := "INVALID_SEQUENCER", type := (.object "com/example/portunus/portunus/model/ErrorCode"), accessFlags := 16409, slot := 20, constantValue := 0 }, { name := "POISONED", type := (.object "com/example/portunus/portunus/model/ErrorCode"), accessFlags := 16409, slot := 21, constantValue := 0 }, { name := "WITHDRAWN", type := (.object "com/example/portunus/portunus/model/ErrorCode"), accessFlags := 16409, slot := 22, constantValue := 0 }, { name := "MEMBERSHIP_REFUSED", type := (.object "com/example/portunus/portunus/model/ErrorCode"), accessFlags := 16409, slot := 23, constantValue := 0 }, { name := "PERMISSION_DENIED", type := (.object "com/example/portunus/portunus/model/ErrorCode"), accessFlags := 16409, slot := 24, constantValue := 0 }, { name := "code", type := .int, accessFlags := 18, slot := 3, constantValue := 0 }, { name := "$VALUES", type := (.array (.object "com/example/portunus/portunus/model/ErrorCode")), accessFlags := 4122, slot := 25, constantValue := 0 }]
  methods := #[k6m0, k6m1, k6m2]
  instanceTypes := #[(.object "java/lang/String"), .int, .int, .int]
  staticTypes := #[(.object "com/example/portunus/portunus/model/ErrorCode"), (.object "com/example/portunus/portunus/model/ErrorCode"), (.object "com/example/portunus/portunus/model/ErrorCode"), (.object "com/example/portunus/portunus/model/ErrorCode"), (.object "com/example/portunus/portunus/model/ErrorCode"), (.object "com/example/portunus/portunus/model/ErrorCode"), (.object "com/example/portunus/portunus/model/ErrorCode"), (.object "com/example/portunus/portunus/model/ErrorCode"), (.object "com/example/portunus/portunus/model/ErrorCode"), (.object "com/example/portunus/portunus/model/ErrorCode"), (.object "com/example/portunus/portunus/model/ErrorCode"), (.object "com/example/portunus/portunus/model/ErrorCode"), (.object "com/example/portunus/portunus/model/ErrorCode"), (.object "com/example/portunus/portunus/model/ErrorCode"), (.object "com/example/portunus/portunus/model/ErrorCode"), (.object "com/example/portunus/portunus/model/ErrorCode"), (.object "com/example/portunus/portunus/model/ErrorCode"), (.object "com/example/portunus/portunus/model/ErrorCode"), (.object "com/example/portunus/portunus/model/ErrorCode"), (.object "com/example/portunus/portunus/model/ErrorCode"), (.object "com/example/portunus/portunus/model/ErrorCode"), (.object "com/example/portunus/portunus/model/ErrorCode"), (.object "com/example/portunus/portunus/model/ErrorCode"), (.object "com/example/portunus/portunus/model/ErrorCode"), (.object "com/example/portunus/portunus/model/ErrorCode"), (.array (.object "com/example/portunus/portunus/model/ErrorCode"))]
  resolved := Array.replicate 176 none
  statics := some 0 }

def pool7 : Array CpInfo := pool [(1, .class_ 2), (0, u "java/lang/Cloneable"), (0, .class_ 4), (0, u "java/lang/Object")] 2

/-- java/lang/Cloneable -/
def k7 : Class := { plain "java/lang/Cloneable" (some 0) with
  accessFlags := 1537
  interfaces := #[]
  cf := some (fileOf pool7 1 #[] #[] 1537 3 #[] #[])
  fields := #[]
  methods := #[]
  instanceTypes := #[]
  staticTypes := #[]
  resolved := Array.replicate 7 none
  statics := none }

/-- the primitive byte -/
def k8 : Class := { plain "byte" none with kind := .primitive 'B', accessFlags := 0x411 }
/-- [B -/
def k9 : Class := { plain "[B" (some 0) with kind := .array 8 .byte, interfaces := #[7, 4], accessFlags := 1041 }

/-- the primitive int -/
def k10 : Class := { plain "int" none with kind := .primitive 'I', accessFlags := 0x411 }
/-- [I -/
def k11 : Class := { plain "[I" (some 0) with kind := .array 10 .int, interfaces := #[7, 4], accessFlags := 1041 }

/-- [Lcom/example/portunus/portunus/model/ErrorCode; -/
def k12 : Class := { plain "[Lcom/example/portunus/portunus/model/ErrorCode;" (some 0) with kind := .array 6 (.object "com/example/portunus/portunus/model/ErrorCode"), interfaces := #[7, 4], accessFlags := 1041 }

def heap : Heap := #[{ cls := 6, slots := #[.ref 2, .ref 3, .ref 4, .ref 5, .ref 6, .ref 7, .ref 8, .ref 9, .ref 10, .ref 11, .ref 12, .ref 13, .ref 14, .ref 15, .ref 16, .ref 17, .ref 18, .ref 19, .ref 20, .ref 21, .ref 22, .ref 23, .ref 24, .ref 25, .ref 26, .ref 1], vm := .statics 6 },
  { cls := 12, slots := #[.ref 2, .ref 3, .ref 4, .ref 5, .ref 6, .ref 7, .ref 8, .ref 9, .ref 10, .ref 11, .ref 12, .ref 13, .ref 14, .ref 15, .ref 16, .ref 17, .ref 18, .ref 19, .ref 20, .ref 21, .ref 22, .ref 23, .ref 24, .ref 25, .ref 26], vm := .none },
  { cls := 6, slots := #[.null, .int 0, .int 0, .int 1], vm := .none },
  { cls := 6, slots := #[.null, .int 0, .int 0, .int 2], vm := .none },
  { cls := 6, slots := #[.null, .int 0, .int 0, .int 3], vm := .none },
  { cls := 6, slots := #[.null, .int 0, .int 0, .int 4], vm := .none },
  { cls := 6, slots := #[.null, .int 0, .int 0, .int 5], vm := .none },
  { cls := 6, slots := #[.null, .int 0, .int 0, .int 6], vm := .none },
  { cls := 6, slots := #[.null, .int 0, .int 0, .int 7], vm := .none },
  { cls := 6, slots := #[.null, .int 0, .int 0, .int 8], vm := .none },
  { cls := 6, slots := #[.null, .int 0, .int 0, .int 9], vm := .none },
  { cls := 6, slots := #[.null, .int 0, .int 0, .int 10], vm := .none },
  { cls := 6, slots := #[.null, .int 0, .int 0, .int 11], vm := .none },
  { cls := 6, slots := #[.null, .int 0, .int 0, .int 12], vm := .none },
  { cls := 6, slots := #[.null, .int 0, .int 0, .int 13], vm := .none },
  { cls := 6, slots := #[.null, .int 0, .int 0, .int 14], vm := .none },
  { cls := 6, slots := #[.null, .int 0, .int 0, .int 15], vm := .none },
  { cls := 6, slots := #[.null, .int 0, .int 0, .int 16], vm := .none },
  { cls := 6, slots := #[.null, .int 0, .int 0, .int 17], vm := .none },
  { cls := 6, slots := #[.null, .int 0, .int 0, .int 18], vm := .none },
  { cls := 6, slots := #[.null, .int 0, .int 0, .int 19], vm := .none },
  { cls := 6, slots := #[.null, .int 0, .int 0, .int 20], vm := .none },
  { cls := 6, slots := #[.null, .int 0, .int 0, .int 21], vm := .none },
  { cls := 6, slots := #[.null, .int 0, .int 0, .int 22], vm := .none },
  { cls := 6, slots := #[.null, .int 0, .int 0, .int 23], vm := .none },
  { cls := 6, slots := #[.null, .int 0, .int 0, .int 24], vm := .none },
  { cls := 6, slots := #[.null, .int 0, .int 0, .int 25], vm := .none }]
def classes : Array Class := #[k0, k1, k2, k3, k4, k5, k6, k7, k8, k9, k10, k11, k12]
def interned : List (Array UInt16 × Addr) := []
def slotsUsed : Nat := 151
def theMethod : MethodId := ⟨1, 1⟩
def args0 : Array Value := #[.int 5]
def aboutOver (below : List Frame) : State where
  vm := { classes := classes, interned := interned.toArray }
  heap := heap
  slotsUsed := slotsUsed
  threads := #[{ frames := .invoking theMethod args0 :: below }]
def below0 : List Frame := [.native { method := ⟨0, 0⟩, args := #[] }]
def about1 : State := aboutOver below0
def p0 : Program := .bare "" "" ""
def e0 : Env := launch0.env 0 0 0
theorem w_frames : about1.frames = Frame.invoking theMethod args0 :: below0 := rfl
set_option maxRecDepth 65536 in
theorem w_args : argsFit about1.vm theMethod args0 = true := by decide +kernel
set_option maxRecDepth 65536 in
theorem w_heap : heapFits about1 = true := by decide +kernel
set_option maxRecDepth 65536 in
theorem w_runnable : about1.curStatus? = some .runnable := by decide +kernel
set_option maxRecDepth 65536 in
theorem w_alone : about1.alone = true := by decide +kernel
set_option maxRecDepth 65536 in
theorem w_named : about1.methodNamed? x = some theMethod := by decide +kernel
set_option maxRecDepth 65536 in
theorem w_hears : about1.hears theMethod below0 = true := by decide +kernel
set_option maxRecDepth 65536 in
theorem w_ripe : about1.ripe theMethod args0 below0 = true := by decide +kernel
theorem w_running : about1.status = .running := rfl
set_option maxRecDepth 65536 in
theorem w_room : about1.hasRoom e0.platform room_1 = true :=
  launch0.hasRoom_least _ room_1 (by decide +kernel) (by decide +kernel) (by decide +kernel) (by decide +kernel) (by decide +kernel) (by decide +kernel)
theorem allAtoms_all (ts : List Jvm.Cond) (a : Array Jvm.Value) (st : Jvm.State) : (allAtoms ts).before a st = ts.all (fun c => c.before a st) := by
  induction ts with
  | nil => rfl
  | cons c t ih =>
    show (Jvm.Cond.and c (allAtoms t)).before a st = _
    rw [Jvm.Cond.before_and, ih, List.all_cons]
def words1 : List Jvm.Cond := Jvm.Cond.code x code maxLocals ret :: tables_1
/-- a 'code' word, met by the world's own term for the bytes: nothing is compared byte by byte -/
theorem code_word {y : MethodName} {bytes : ByteArray} {mx : Nat} {rt : Option FieldType} {a : Array Value} {s : State} {m : MethodId} {meth : Method} {c : Code} (h1 : s.methodNamed? y = some m) (h2 : s.vm.method? m = some meth) (h3 : meth.code = some c) (h4 : c.code = bytes)
    (h5 : (c.maxLocals == mx && c.exceptionTable.isEmpty && decide (c.maxStack ≤ mostOperands) && decide (meth.sig.returnType = rt) && !meth.locks && decide (parseMethodDescriptor y.desc = some meth.sig)) = true) : (Jvm.Cond.code y bytes mx rt).before a s = true := by
  simp only [Bool.and_eq_true, beq_iff_eq, Bool.not_eq_true', decide_eq_true_eq] at h5
  obtain ⟨⟨⟨⟨⟨g1, g2⟩, g3⟩, g4⟩, g5⟩, g6⟩ := h5
  simp [Cond.before, Cond.holds, Cond.value, h1, h2, h3, h4, g1, g2, g3, g4, g5, g6]
def isCode : Jvm.Cond → Bool
  | .code _ _ _ _ => true
  | _ => false
theorem all_split {L : List Jvm.Cond} {P : Jvm.Cond → Bool} (h1 : L.all (fun c => isCode c || P c) = true) (h2 : ∀ c ∈ L.filter isCode, P c = true) : L.all P = true := by
  refine List.all_eq_true.mpr fun c hc => ?_
  have h := List.all_eq_true.mp h1 c hc
  rcases Bool.eq_false_or_eq_true (isCode c) with hi | hi
  · exact h2 c (List.mem_filter.mpr ⟨hc, hi⟩)
  · simpa [hi] using h
set_option maxRecDepth 65536 in
theorem w_c0 : (Jvm.Cond.code x code maxLocals ret).before args0 about1 = true := code_word (m := ⟨1, 1⟩) (meth := k1m1) (c := k1c1) (by decide +kernel) rfl rfl rfl (by decide +kernel)
set_option maxRecDepth 65536 in
theorem w_c1 : (Jvm.Cond.code ({ cls := "com/example/portunus/portunus/model/ErrorCode", name := "fromCode", desc := "(I)Lcom/example/portunus/portunus/model/ErrorCode;" } : Jvm.MethodName) prog_97_method_5_code (5 : Nat) (Option.some (Jvm.ClassFile.FieldType.object "com/example/portunus/portunus/model/ErrorCode"))).before args0 about1 = true := code_word (m := ⟨6, 2⟩) (meth := k6m2) (c := k6c2) (by decide +kernel) rfl rfl rfl (by decide +kernel)
set_option maxRecDepth 65536 in
theorem w_c2 : (Jvm.Cond.code ({ cls := "com/example/portunus/portunus/model/ErrorCode", name := "values", desc := "()[Lcom/example/portunus/portunus/model/ErrorCode;" } : Jvm.MethodName) prog_97_method_1_code (0 : Nat) (Option.some (Jvm.ClassFile.FieldType.array (Jvm.ClassFile.FieldType.object "com/example/portunus/portunus/model/ErrorCode")))).before args0 about1 = true := code_word (m := ⟨6, 0⟩) (meth := k6m0) (c := k6c0) (by decide +kernel) rfl rfl rfl (by decide +kernel)
set_option maxRecDepth 65536 in
theorem w_c3 : (Jvm.Cond.code ({ cls := "com/example/portunus/portunus/model/ErrorCode", name := "code", desc := "()I" } : Jvm.MethodName) prog_97_method_4_code (1 : Nat) (Option.some Jvm.ClassFile.FieldType.int)).before args0 about1 = true := code_word (m := ⟨6, 1⟩) (meth := k6m1) (c := k6c1) (by decide +kernel) rfl rfl rfl (by decide +kernel)
def codes1 : List Jvm.Cond := [Jvm.Cond.code x code maxLocals ret, Jvm.Cond.code ({ cls := "com/example/portunus/portunus/model/ErrorCode", name := "fromCode", desc := "(I)Lcom/example/portunus/portunus/model/ErrorCode;" } : Jvm.MethodName) prog_97_method_5_code (5 : Nat) (Option.some (Jvm.ClassFile.FieldType.object "com/example/portunus/portunus/model/ErrorCode")), Jvm.Cond.code ({ cls := "com/example/portunus/portunus/model/ErrorCode", name := "values", desc := "()[Lcom/example/portunus/portunus/model/ErrorCode;" } : Jvm.MethodName) prog_97_method_1_code (0 : Nat) (Option.some (Jvm.ClassFile.FieldType.array (Jvm.ClassFile.FieldType.object "com/example/portunus/portunus/model/ErrorCode"))), Jvm.Cond.code ({ cls := "com/example/portunus/portunus/model/ErrorCode", name := "code", desc := "()I" } : Jvm.MethodName) prog_97_method_4_code (1 : Nat) (Option.some Jvm.ClassFile.FieldType.int)]
set_option maxRecDepth 65536 in
theorem codes_eq : words1.filter isCode = codes1 := rfl
theorem w_codes : ∀ c ∈ words1.filter isCode, c.before args0 about1 = true := by
  rw [codes_eq]
  intro c hc
  simp only [codes1, List.mem_cons, List.not_mem_nil, or_false] at hc
  rcases hc with rfl | rfl | rfl | rfl
  · exact w_c0
  · exact w_c1
  · exact w_c2
  · exact w_c3
set_option maxRecDepth 65536 in
theorem w_t1 : (words1.take 24).all (fun c => isCode c || c.before args0 about1) = true := by decide +kernel
set_option maxRecDepth 65536 in
theorem w_t2 : ((words1.drop 24).take 24).all (fun c => isCode c || c.before args0 about1) = true := by decide +kernel
set_option maxRecDepth 65536 in
theorem w_t3 : ((words1.drop 24).drop 24).all (fun c => isCode c || c.before args0 about1) = true := by decide +kernel
theorem w_tables : (allAtoms (Jvm.Cond.code x code maxLocals ret :: tables_1)).before args0 about1 = true := by
  rw [allAtoms_all]
  show words1.all (fun c => c.before args0 about1) = true
  refine all_split ?_ w_codes
  rw [← List.take_append_drop 24 words1, List.all_append, w_t1, ← List.take_append_drop 24 (words1.drop 24), List.all_append, w_t2, w_t3]
  rfl
set_option maxRecDepth 65536 in
theorem w_case : (Jvm.Cond.and given_1 narrow_1).before args0 about1 = true := by decide +kernel
theorem w_applies : (headSpec (Jvm.Cond.code x code maxLocals ret :: tables_1) room_1).applies x e0.platform about1 = true :=
  (Spec.applies_iff w_frames).mpr ⟨w_running, w_runnable, w_alone, w_named, w_hears, w_ripe, w_room, w_tables⟩
theorem atStart : AtStart classFile x code maxLocals ret World_1 tables_1 room_1 Calls_1 rest_1 Pre_1 launch0 p0 e0 about1 theMethod args0 below0 :=
  ⟨lists_1, trivial, launch0.admits_env _ _ _, launch0.least_env, fairChoices_fair.cas, fairChoices_fair.clock, w_frames, w_args, w_heap, w_applies, trivial, trivial, w_case⟩
end start1
theorem witness_1 : WitnessClaimed_1 := ⟨start1.p0, start1.e0, start1.about1, start1.theMethod, start1.args0, start1.below0, start1.atStart⟩
end Jvm.Pilot.@@N@@

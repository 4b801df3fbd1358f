import JvmDerived
import JvmDerived.Pilot.@@N@@Statement
import JvmDerived.Pilot.@@N@@Code
set_option linter.unusedVariables false
set_option linter.unusedSimpArgs false
namespace Jvm.Pilot.@@N@@
open Jvm Jvm.ClassFile Sem Op Lib Jvm.Free Jvm.Stand Jvm.LawKit Jvm.RoadKit Bundle Jvm.Pilot.@@N@@.Jvm.D
/-! THE LAYER own_: 'Ends': from this state the body ends as Q says; one lemma an instruction, over frames in the form mkF -/
section Own
variable {p : Program} {l : Launch} {e : Env} {R : Room} {s : State} {m : MethodId} {args : Array Value} {below : List Frame} {meth : Method} {c : Code} {T : State} {locs : List Loc} {cells slots : Nat}
variable {Q : Option Value → Heap → List Loc → Prop} {C S : Nat} {bc : ByteArray} {pc pc' : Nat} {Ls Ls' : Array Slot} {st : List Value} {Fz : Outcome → State → Prop}
def Ends (tb : Tables) (e : Env) (below : List Frame) (Fz : Outcome → State → Prop) (t : State) : Prop :=
  ∃ s₂ o, Steps tb e below t s₂ ∧ s₂.status = .running ∧ Ended s₂ below o ∧ Fz o s₂
def OwnFin (s : State) (Q : Option Value → Heap → List Loc → Prop) (C S : Nat) (o : Outcome) (s₂ : State) : Prop := ∃ v L, o = .returned v ∧ Q v s₂.heap L ∧ FrameEnd s o s₂ L C S
theorem Ends.of {tb : Tables} {t t' : State} (st : ∀ target, Steps tb e below t' target → Steps tb e below t target) (k : Ends tb e below Fz t') : Ends tb e below Fz t := by
  obtain ⟨s₂, o, h1, h2⟩ := k
  exact ⟨s₂, o, st _ h1, h2⟩
theorem Ends.tr {tb : Tables} {t t' : State} (st : Steps tb e below t t') (k : Ends tb e below Fz t') : Ends tb e below Fz t := Ends.of (fun _ q => st.trans q) k
theorem own_iloadN (X : Stand p l e R s m args below meth c T locs cells slots) (hx : p.tables.exec = Jvm.exec) (hby : c.code = bc) {k : Fin 4} {v : Int32} (hd : decode bc pc = .ok (.iload_n k, 1)) (hp : pc + 1 = pc') (hl : Ls[k.val]? = some (.val (.int v)))
    (kt : Ends p.tables e below Fz (T.setTop (mkF m pc' Ls (.int v :: st)))) : Ends p.tables e below Fz (T.setTop (mkF m pc Ls st)) := by
  subst hp; exact Ends.of (fun _ q => XS.iloadN X.here hx rfl (hb hby hd) hl q) kt
theorem own_iload (X : Stand p l e R s m args below meth c T locs cells slots) (hx : p.tables.exec = Jvm.exec) (hby : c.code = bc) {k : Nat} {v : Int32} (hd : decode bc pc = .ok (.iload k, 2)) (hp : pc + 2 = pc') (hl : Ls[k]? = some (.val (.int v)))
    (kt : Ends p.tables e below Fz (T.setTop (mkF m pc' Ls (.int v :: st)))) : Ends p.tables e below Fz (T.setTop (mkF m pc Ls st)) := by
  subst hp; exact Ends.of (fun _ q => XS.iload X.here hx rfl (hb hby hd) hl q) kt
theorem own_aloadN (X : Stand p l e R s m args below meth c T locs cells slots) (hx : p.tables.exec = Jvm.exec) (hby : c.code = bc) {k : Fin 4} {v : Value} (hd : decode bc pc = .ok (.aload_n k, 1)) (hp : pc + 1 = pc') (hl : Ls[k.val]? = some (.val v)) (hv : v.isRef = true)
    (kt : Ends p.tables e below Fz (T.setTop (mkF m pc' Ls (v :: st)))) : Ends p.tables e below Fz (T.setTop (mkF m pc Ls st)) := by
  subst hp; exact Ends.of (fun _ q => XS.aloadN X.here hx rfl (hb hby hd) hl hv q) kt
theorem own_aload (X : Stand p l e R s m args below meth c T locs cells slots) (hx : p.tables.exec = Jvm.exec) (hby : c.code = bc) {k : Nat} {v : Value} (hd : decode bc pc = .ok (.aload k, 2)) (hp : pc + 2 = pc') (hl : Ls[k]? = some (.val v)) (hv : v.isRef = true)
    (kt : Ends p.tables e below Fz (T.setTop (mkF m pc' Ls (v :: st)))) : Ends p.tables e below Fz (T.setTop (mkF m pc Ls st)) := by
  subst hp; exact Ends.of (fun _ q => XS.aload X.here hx rfl (hb hby hd) hl hv q) kt
theorem own_istoreN (X : Stand p l e R s m args below meth c T locs cells slots) (hx : p.tables.exec = Jvm.exec) (hby : c.code = bc) {k : Fin 4} {v : Int32} (hd : decode bc pc = .ok (.istore_n k, 1)) (hp : pc + 1 = pc') (Ls' : Array Slot) (hl : storeLocals Ls k.val (.int v) = some Ls')
    (kt : Ends p.tables e below Fz (T.setTop (mkF m pc' Ls' st))) : Ends p.tables e below Fz (T.setTop (mkF m pc Ls (.int v :: st))) := by
  subst hp; exact Ends.of (fun _ q => XS.istoreN X.here hx rfl (hb hby hd) rfl hl q) kt
theorem own_istore (X : Stand p l e R s m args below meth c T locs cells slots) (hx : p.tables.exec = Jvm.exec) (hby : c.code = bc) {k : Nat} {v : Int32} (hd : decode bc pc = .ok (.istore k, 2)) (hp : pc + 2 = pc') (Ls' : Array Slot) (hl : storeLocals Ls k (.int v) = some Ls')
    (kt : Ends p.tables e below Fz (T.setTop (mkF m pc' Ls' st))) : Ends p.tables e below Fz (T.setTop (mkF m pc Ls (.int v :: st))) := by
  subst hp; exact Ends.of (fun _ q => XS.istore X.here hx rfl (hb hby hd) rfl hl q) kt
theorem own_astore (X : Stand p l e R s m args below meth c T locs cells slots) (hx : p.tables.exec = Jvm.exec) (hby : c.code = bc) {k : Nat} {v : Value} (hd : decode bc pc = .ok (.astore k, 2)) (hp : pc + 2 = pc') (Ls' : Array Slot) (hv : v.isRef = true) (hl : storeLocals Ls k v = some Ls')
    (kt : Ends p.tables e below Fz (T.setTop (mkF m pc' Ls' st))) : Ends p.tables e below Fz (T.setTop (mkF m pc Ls (v :: st))) := by
  subst hp; exact Ends.of (fun _ q => XS.astore X.here hx rfl (hb hby hd) rfl hv hl q) kt
theorem own_iconst (X : Stand p l e R s m args below meth c T locs cells slots) (hx : p.tables.exec = Jvm.exec) (hby : c.code = bc) {i : Int} (hd : decode bc pc = .ok (.iconst i, 1)) (hp : pc + 1 = pc') (v : Int32) (hv : Int32.ofInt i = v)
    (kt : Ends p.tables e below Fz (T.setTop (mkF m pc' Ls (.int v :: st)))) : Ends p.tables e below Fz (T.setTop (mkF m pc Ls st)) := by
  subst hp; exact Ends.of (fun _ q => by subst hv; exact XS.iconst X.here hx rfl (hb hby hd) q) kt
theorem own_iand (X : Stand p l e R s m args below meth c T locs cells slots) (hx : p.tables.exec = Jvm.exec) (hby : c.code = bc) {x y : Int32} (hd : decode bc pc = .ok (.iand, 1)) (hp : pc + 1 = pc')
    (kt : Ends p.tables e below Fz (T.setTop (mkF m pc' Ls (.int (x &&& y) :: st)))) : Ends p.tables e below Fz (T.setTop (mkF m pc Ls (.int y :: .int x :: st))) := by
  subst hp; exact Ends.of (fun _ q => XS.iand X.here hx rfl (hb hby hd) rfl q) kt
theorem own_goto (X : Stand p l e R s m args below meth c T locs cells slots) (hx : p.tables.exec = Jvm.exec) (hby : c.code = bc) {o : Int} (hd : decode bc pc = .ok (.goto o, 3)) (hp : (pc : Int) + o = (pc' : Int)) (kt : Ends p.tables e below Fz (T.setTop (mkF m pc' Ls st))) : Ends p.tables e below Fz (T.setTop (mkF m pc Ls st)) :=
  Ends.of (fun _ q => XS.goto X.here hx rfl (pc0 := pc) (pc' := pc') rfl (hb hby hd) (by rw [hp]; exact Int.natCast_nonneg _) (by rw [hp]; rfl) q) kt
theorem own_if_eq (X : Stand p l e R s m args below meth c T locs cells slots) (hx : p.tables.exec = Jvm.exec) (hby : c.code = bc) {x : Int32} {o : Int} {pcY pcN : Nat} (hd : decode bc pc = .ok (.ifCond .eq o, 3)) (hpY : (pc : Int) + o = (pcY : Int)) (hpN : pc + 3 = pcN) (kY : x = 0 → Ends p.tables e below Fz (T.setTop (mkF m pcY Ls st))) (kN : ¬ x = 0 → Ends p.tables e below Fz (T.setTop (mkF m pcN Ls st))) : Ends p.tables e below Fz (T.setTop (mkF m pc Ls (.int x :: st))) := by
  subst hpN; by_cases h : x = (0 : Int32)
  · exact Ends.of (fun _ q => XS.ifYes X.here hx rfl (pc0 := pc) (pc' := pcY) rfl (hb hby hd) rfl (Jvm.Free.XT.i0_eq_t h) (by rw [hpY]; exact Int.natCast_nonneg _) (by rw [hpY]; rfl) q) (kY h)
  · exact Ends.of (fun _ q => XS.ifNo X.here hx rfl (hb hby hd) rfl (Jvm.Free.XT.i0_eq_f h) q) (kN h)
theorem own_if_ne (X : Stand p l e R s m args below meth c T locs cells slots) (hx : p.tables.exec = Jvm.exec) (hby : c.code = bc) {x : Int32} {o : Int} {pcY pcN : Nat} (hd : decode bc pc = .ok (.ifCond .ne o, 3)) (hpY : (pc : Int) + o = (pcY : Int)) (hpN : pc + 3 = pcN) (kY : ¬ x = 0 → Ends p.tables e below Fz (T.setTop (mkF m pcY Ls st))) (kN : x = 0 → Ends p.tables e below Fz (T.setTop (mkF m pcN Ls st))) : Ends p.tables e below Fz (T.setTop (mkF m pc Ls (.int x :: st))) := by
  subst hpN; by_cases h : x = (0 : Int32)
  · exact Ends.of (fun _ q => XS.ifNo X.here hx rfl (hb hby hd) rfl (Jvm.Free.XT.i0_ne_f h) q) (kN h)
  · exact Ends.of (fun _ q => XS.ifYes X.here hx rfl (pc0 := pc) (pc' := pcY) rfl (hb hby hd) rfl (Jvm.Free.XT.i0_ne_t h) (by rw [hpY]; exact Int.natCast_nonneg _) (by rw [hpY]; rfl) q) (kY h)
theorem own_acmp_eq (X : Stand p l e R s m args below meth c T locs cells slots) (hx : p.tables.exec = Jvm.exec) (hby : c.code = bc) {x y : Value} {o : Int} {pcY pcN : Nat} (hd : decode bc pc = .ok (.if_acmp .eq o, 3)) (hpY : (pc : Int) + o = (pcY : Int)) (hpN : pc + 3 = pcN) (h1 : x.isRef = true) (h2 : y.isRef = true) (kY : x = y → Ends p.tables e below Fz (T.setTop (mkF m pcY Ls st))) (kN : ¬ x = y → Ends p.tables e below Fz (T.setTop (mkF m pcN Ls st))) : Ends p.tables e below Fz (T.setTop (mkF m pc Ls (y :: x :: st))) := by
  subst hpN; by_cases h : x = y
  · exact Ends.of (fun _ q => Jvm.RoadKit.acmp (g := mkF m pc Ls (y :: x :: st)) X hx rfl h1 h2 (pc0 := pc) (same := true) rfl (hb hby hd) rfl (decide_eq_true h) (by rw [hpY]; exact Int.natCast_nonneg _) rfl (by simpa [acV, hpY] using q)) (kY h)
  · exact Ends.of (fun _ q => Jvm.RoadKit.acmp (g := mkF m pc Ls (y :: x :: st)) X hx rfl h1 h2 (pc0 := pc) (same := false) rfl (hb hby hd) rfl (decide_eq_false h) (by rw [hpY]; exact Int.natCast_nonneg _) rfl (by simpa [acV] using q)) (kN h)
theorem own_acmp_ne (X : Stand p l e R s m args below meth c T locs cells slots) (hx : p.tables.exec = Jvm.exec) (hby : c.code = bc) {x y : Value} {o : Int} {pcY pcN : Nat} (hd : decode bc pc = .ok (.if_acmp .ne o, 3)) (hpY : (pc : Int) + o = (pcY : Int)) (hpN : pc + 3 = pcN) (h1 : x.isRef = true) (h2 : y.isRef = true) (kY : ¬ x = y → Ends p.tables e below Fz (T.setTop (mkF m pcY Ls st))) (kN : x = y → Ends p.tables e below Fz (T.setTop (mkF m pcN Ls st))) : Ends p.tables e below Fz (T.setTop (mkF m pc Ls (y :: x :: st))) := by
  subst hpN; by_cases h : x = y
  · exact Ends.of (fun _ q => Jvm.RoadKit.acmp (g := mkF m pc Ls (y :: x :: st)) X hx rfl h1 h2 (pc0 := pc) (same := true) rfl (hb hby hd) rfl (decide_eq_true h) (by rw [hpY]; exact Int.natCast_nonneg _) rfl (by simpa [acV] using q)) (kN h)
  · exact Ends.of (fun _ q => Jvm.RoadKit.acmp (g := mkF m pc Ls (y :: x :: st)) X hx rfl h1 h2 (pc0 := pc) (same := false) rfl (hb hby hd) rfl (decide_eq_false h) (by rw [hpY]; exact Int.natCast_nonneg _) rfl (by simpa [acV, hpY] using q)) (kY h)
theorem own_ret (X : Stand p l e R s m args below meth c T locs cells slots) (hx : p.tables.exec = Jvm.exec) (hby : c.code = bc) {v : Value} {t : FieldType} {i : Instr} (hret : meth.sig.returnType = some t) (hk : meth.locks = false) (hd : decode bc pc = .ok (i, 1)) (v' : Value) (hn : narrow t v = v')
    (hi : (i = .ireturn ∧ (t = .int ∨ t = .boolean ∨ t = .byte ∨ t = .char ∨ t = .short) ∧ ∃ z, v = .int z) ∨ (i = .lreturn ∧ t = .long ∧ ∃ z, v = .long z) ∨ (i = .areturn ∧ t.isReference = true ∧ v.isRef = true))
    (hC : cells ≤ C) (hS : slots ≤ S) (q : Q (some v') T.heap locs) : Ends p.tables e below (OwnFin s Q C S) (T.setTop (mkF m pc Ls (v :: st))) := by
  obtain ⟨fs, hr, hrun, hended, hW, hsame⟩ := X.leave (v := some v') (fun h => by rw [hret] at h; cases h) hk
  refine ⟨_, _, ?_, hrun, hended, _, _, rfl, q, ⟨_, rfl⟩, hW, hsame.mono hC hS⟩
  have hm' : T.vm.method? m = some meth := X.method'
  show Steps p.tables e below (T.setTop { method := m, pc := pc, locals := Ls, stack := v :: st, locked := none }) _
  have hd' := hb hby hd
  rcases hi with ⟨rfl, ht, z, rfl⟩ | ⟨rfl, rfl, z, rfl⟩ | ⟨rfl, ht, hv⟩
  · rcases ht with rfl | rfl | rfl | rfl | rfl <;> (jvm_step X.here [X.here.top, hx, hd', hm', hret, hn]; first | (intro acts; rw [hr _ acts rfl rfl rfl]) | rw [hr _ _ rfl rfl rfl]) <;> exact Steps.refl _
  · have hn2 : Value.long z = v' := hn
    subst hn2
    jvm_step X.here [X.here.top, hx, hd', hm', hret, hn]
    first | (intro acts; rw [hr _ acts rfl rfl rfl]) | rw [hr _ _ rfl rfl rfl]
    exact Steps.refl _
  · have hn2 : v = v' := by rw [← hn]; rcases ref_cases hv with rfl | ⟨z, rfl⟩ <;> cases t <;> rfl
    subst hn2
    jvm_step X.here [X.here.top, hx, hd', hm', hret, hn, ht, hv]
    first | (intro acts; rw [hr _ acts rfl rfl rfl]) | rw [hr _ _ rfl rfl rfl]
    exact Steps.refl _
end Own
section OwnH
variable {p : Program} {l : Launch} {e : Env} {R : Room} {s : State} {m : MethodId} {args : Array Value} {below : List Frame} {meth : Method} {c : Code} {T : State} {locs : List Loc} {cells slots : Nat}
variable {Fz : Outcome → State → Prop} {bc : ByteArray} {pc pc' : Nat} {Ls Ls' : Array Slot} {st : List Value}
variable {Z : State} {a0 : Array Value} {h h0 : Heap} {n0 : Nat}
abbrev OwnMet (l : Launch) (Z : State) (y : MethodName) (bytes : ByteArray) (maxL : Nat) (rt : Option FieldType) (ws : List Jvm.Cond) (rm : Room) (as' : Array Value) (h0 : Heap) (Qc : Option Value → Heap → List Loc → Prop) : Prop :=
  MetFree l y (head1 (Jvm.Cond.code y bytes maxL rt :: ws) rm) (fun a U => a = as' ∧ Z.Warmed39 U.vm ∧ U.heap = h0) (fun _ _ _ _ _ => True) (fun _ U o U' => ∃ v L, o = .returned v ∧ Qc v U'.heap L ∧ FrameEnd U o U' L rm.cells rm.slots)
theorem own_body {y : MethodName} {bytes : ByteArray} {maxL : Nat} {rt : Option FieldType} {ws : List Jvm.Cond} {rm : Room} {as' : Array Value} {Qc : Option Value → Heap → List Loc → Prop} {Ls0 : Array Slot} (hpl : plainFor y = true) (hef : ∀ m : MethodId, entryFrame m as' maxL = mkF m 0 Ls0 [])
    (body : ∀ (p : Program) (e : Env) (s : State) (m : MethodId) (below : List Frame) (meth : Method) (c : Code) (s₁ : State), Stand p l e rm s m as' below meth c s₁ [] 0 0 → p.tables.exec = Jvm.exec → c.code = bytes → c.maxLocals = maxL → s.vm.findClass y.cls = some m.cls → meth.name = y.name → meth.sig.returnType = rt → meth.locks = false → Z.Warmed39 s.vm → s₁.heap = h0 → Ends p.tables e below (OwnFin s Qc rm.cells rm.slots) (s₁.setTop (mkF m 0 Ls0 []))) :
    OwnMet l Z y bytes maxL rt ws rm as' h0 Qc := by
  refine MetFree.of_bodySF hpl hisR ?_
  intro p e s m args below meth c s₁ Bd hml0 hP hK
  obtain ⟨rfl, hZ, hh⟩ := hP
  have e0 : s₁.heap = h0 := by rw [← hh, Bd.state]; rfl
  rw [hef]
  exact body p e s m below meth c s₁ (Stand.of_body Bd) Bd.exec Bd.bytes hml0 (findClass_of_methodNamed Bd.named) (name_of_methodNamed Bd.named Bd.method).1 Bd.returns Bd.notSynchronized hZ e0
theorem own_static (X : Stand p l e R s m args below meth c T locs cells slots) (hx : p.tables.exec = Jvm.exec) (hby : c.code = bc) (hZ : Z.Warmed39 s.vm) {own : String} {index : Nat} {y : MethodName} {bytes : ByteArray} {maxL : Nat} {rt r : Option FieldType} {ps : List FieldType} {rm : Room} {argsL rest : List Value} {Qc : Option Value → Heap → List Loc → Prop} {W : Nat}
    (hown : s.vm.findClass own = some m.cls) (w1 : (Jvm.Cond.methodLink own index y).before a0 Z = true) (w2 : (Jvm.Cond.static y).before a0 Z = true) (w3 : (Jvm.Cond.initialized y.cls).before a0 Z = true) (w4 : (Jvm.Cond.code y bytes maxL rt).before a0 Z = true) (hy : y.cls ≠ "java/lang/invoke/MethodHandle" ∧ y.cls ≠ "java/lang/invoke/VarHandle")
    (hM : OwnMet l Z y bytes maxL rt [] rm argsL.toArray h Qc) (eT : T.heap = h) (hml : Ls.size = c.maxLocals) (hlen : parseMethodDescriptor y.desc = some ⟨ps, r⟩) (hl : argsL.length = ps.length) (hf : rm.frames + 1 ≤ R.frames) (hW : (rest.map fun v => v.category).sum ≤ W) (hlo : W + (maxL + 11) + rm.locals ≤ R.locals) (hc : cells + rm.cells ≤ R.cells) (hs : slots + rm.slots ≤ R.slots)
    (hd : decode bc pc = .ok (.invokestatic index, 3)) (hp : pc + 3 = pc') (hst : st = argsL.reverse ++ rest)
    (kt : ∀ v T' L, Stand p l e R s m args below meth c T' (locs ++ L) (cells + rm.cells) (slots + rm.slots) → Qc v T'.heap L → Ends p.tables e below Fz (T'.setTop (mkF m pc' Ls (v.toList ++ rest)))) : Ends p.tables e below Fz (T.setTop (mkF m pc Ls st)) := by
  subst hp hst
  obtain ⟨v, vm₁, ⟨T', L', k', n'⟩, -, X', ⟨Lc, hQ, l', y', z'⟩, st⟩ := Jvm.LawKit.callS X hx (y := y) hown (mvT hZ w1) (mvT hZ w2) (mvT hZ w3) (mvT hZ w4) hy (backOf (W := W) hM hZ w4 w3 hf hlo) (g := mkF m pc Ls (argsL.reverse ++ rest)) rfl hml (argsL := argsL) (rest := rest) (lenOf hlen hl) rfl (by show 2 * 0 + _ ≤ _; omega) (hb hby hd) (fun _ _ => ⟨rfl, eT, hc, hs⟩)
  dsimp only [Pt.U, Pt.locs, Pt.cells, Pt.slots] at X' l' y' z' st hQ
  subst l' y' z'
  exact Ends.of st (kt v T' Lc X' hQ)
theorem own_virtual (X : Stand p l e R s m args below meth c T locs cells slots) (hx : p.tables.exec = Jvm.exec) (hby : c.code = bc) (hZ : Z.Warmed39 s.vm) {own Cn : String} {index : Nat} {y : MethodName} {bytes : ByteArray} {maxL : Nat} {rt r : Option FieldType} {ps : List FieldType} {rm : Room} {a : Addr} {argsL rest : List Value} {Qc : Option Value → Heap → List Loc → Prop} {W : Nat}
    (hown : s.vm.findClass own = some m.cls) (w1 : (Jvm.Cond.methodLink own index y).before a0 Z = true) (wd : (Jvm.Cond.declares y).before a0 Z = true) (ws : (Jvm.Cond.selects Cn y y).before a0 Z = true) (w2 : (Jvm.Cond.instanceMethod y).before a0 Z = true) (w3 : (Jvm.Cond.initialized y.cls).before a0 Z = true) (w4 : (Jvm.Cond.code y bytes maxL rt).before a0 Z = true) (hy : y.cls ≠ "java/lang/invoke/MethodHandle" ∧ y.cls ≠ "java/lang/invoke/VarHandle")
    (hM : OwnMet l Z y bytes maxL rt [] rm (Value.ref a :: argsL).toArray h Qc) (E : Exa Z h a Cn) (eT : T.heap = h) (hml : Ls.size = c.maxLocals) (hlen : parseMethodDescriptor y.desc = some ⟨ps, r⟩) (hl : argsL.length = ps.length) (hf : rm.frames + 1 ≤ R.frames) (hW : (rest.map fun v => v.category).sum ≤ W) (hlo : W + (maxL + 11) + rm.locals ≤ R.locals) (hc : cells + rm.cells ≤ R.cells) (hs : slots + rm.slots ≤ R.slots)
    (hd : decode bc pc = .ok (.invokevirtual index, 3)) (hp : pc + 3 = pc') (hst : st = argsL.reverse ++ Value.ref a :: rest)
    (kt : ∀ v T' L, Stand p l e R s m args below meth c T' (locs ++ L) (cells + rm.cells) (slots + rm.slots) → Qc v T'.heap L → Ends p.tables e below Fz (T'.setTop (mkF m pc' Ls (v.toList ++ rest)))) : Ends p.tables e below Fz (T.setTop (mkF m pc Ls st)) := by
  subst hp hst
  obtain ⟨cq, kq, qa, qb, qc⟩ := isOf hZ eT E
  obtain ⟨v, vm₁, ⟨T', L', k', n'⟩, -, X', ⟨Lc, hQ, l', y', z'⟩, st⟩ := X.virtualBack hx (y := y) (z := y) hown (mvT hZ w1) (mvT hZ wd) (notFace_of_selects (args := #[]) (mvT hZ ws)) (mvT hZ ws) (mvT hZ w2) hy (backOf (W := W) hM hZ w4 w3 hf hlo) qa qc (g := mkF m pc Ls (argsL.reverse ++ Value.ref a :: rest)) rfl hml (Steps.refl _) (argsL := argsL) (rest := rest) (lenOf hlen hl) rfl (by show 2 * 0 + _ ≤ _; omega) (hb hby hd) (fun _ _ => ⟨rfl, eT, hc, hs⟩)
  dsimp only [Pt.U, Pt.locs, Pt.cells, Pt.slots] at X' l' y' z' st hQ
  subst l' y' z'
  exact Ends.tr st (kt v T' Lc X' hQ)
theorem own_getfield (X : Stand p l e R s m args below meth c T locs cells slots) (hx : p.tables.exec = Jvm.exec) (hby : c.code = bc) (hZ : Z.Warmed39 s.vm) {own R0 O n d host : String} {index : Nat} {a : Addr} {v : Value}
    (hown : s.vm.findClass own = some m.cls) (w : (Jvm.Cond.fieldLink own index R0 n d).before a0 Z = true ∨ (Jvm.Cond.fieldLinkNest own index R0 n d host).before a0 Z = true) (via : Via Z R0 O n d) (eT : T.heap = h) (F : Fld Z h a O n d v)
    (hd : decode bc pc = .ok (.getfield index, 3)) (hp : pc + 3 = pc')
    (kt : ∀ T', Stand p l e R s m args below meth c T' locs cells slots → T'.heap = h → Ends p.tables e below Fz (T'.setTop (mkF m pc' Ls (v :: st)))) : Ends p.tables e below Fz (T.setTop (mkF m pc Ls (.ref a :: st))) := by
  subst hp
  obtain ⟨T', X', e', st⟩ := getF X hx hZ hown w via eT F (g := mkF m pc Ls (.ref a :: st)) rfl rfl (hb hby hd)
  exact Ends.of st (kt T' X' e')
theorem own_getstatic (X : Stand p l e R s m args below meth c T locs cells slots) (hx : p.tables.exec = Jvm.exec) (hby : c.code = bc) (hZ : Z.Warmed39 s.vm) {own R0 O n d host : String} {index : Nat} {v : Value}
    (hown : s.vm.findClass own = some m.cls) (w : (Jvm.Cond.fieldLink own index R0 n d).before a0 Z = true ∨ (Jvm.Cond.fieldLinkNest own index R0 n d host).before a0 Z = true) (via : Via Z R0 O n d) (eT : T.heap = h) (F : Sta Z h O n d v)
    (hd : decode bc pc = .ok (.getstatic index, 3)) (hp : pc + 3 = pc')
    (kt : ∀ T', Stand p l e R s m args below meth c T' locs cells slots → T'.heap = h → Ends p.tables e below Fz (T'.setTop (mkF m pc' Ls (v :: st)))) : Ends p.tables e below Fz (T.setTop (mkF m pc Ls st)) := by
  subst hp
  obtain ⟨T', X', e', st⟩ := getS2 X hx hZ hown w via eT F (g := mkF m pc Ls st) rfl (hb hby hd)
  exact Ends.of st (kt T' X' e')
theorem own_tsw (X : Stand p l e R s m args below meth c T locs cells slots) (hx : p.tables.exec = Jvm.exec) (hby : c.code = bc) {dflt low high : Int} {offs : Array Int} {len : Nat} {i : Int32} (o : Int)
    (hd : decode bc pc = .ok (.tableswitch dflt low high offs, len)) (hin : ¬ (i.toInt < low ∨ i.toInt > high)) (hoff : offs[(i.toInt - low).toNat]? = some o) (hp : (pc : Int) + o = (pc' : Int))
    (kt : Ends p.tables e below Fz (T.setTop (mkF m pc' Ls st))) : Ends p.tables e below Fz (T.setTop (mkF m pc Ls (.int i :: st))) :=
  Ends.of (fun _ q => XS.tswIn X.here hx rfl (pc0 := pc) (pc' := pc') rfl (hb hby hd) rfl hin hoff (by rw [hp]; exact Int.natCast_nonneg _) (by rw [hp]; rfl) q) kt
theorem own_virtualUp (X : Stand p l e R s m args below meth c T locs cells slots) (hx : p.tables.exec = Jvm.exec) (hby : c.code = bc) (hZ : Z.Warmed39 s.vm) {own Cn owner : String} {index : Nat} {y z : MethodName} {bytes : ByteArray} {maxL : Nat} {rt r : Option FieldType} {ps : List FieldType} {rm : Room} {a : Addr} {argsL rest : List Value} {Qc : Option Value → Heap → List Loc → Prop} {W : Nat}
    (hown : s.vm.findClass own = some m.cls) (w1 : (Jvm.Cond.methodLink own index y).before a0 Z = true) (wm : (Jvm.Cond.sameMethod y.cls owner y.name y.desc).before a0 Z = true) (wd : (Jvm.Cond.declares ⟨owner, y.name, y.desc⟩).before a0 Z = true) (ws : (Jvm.Cond.selects Cn y z).before a0 Z = true) (w2 : (Jvm.Cond.instanceMethod z).before a0 Z = true) (w3 : (Jvm.Cond.initialized z.cls).before a0 Z = true) (w4 : (Jvm.Cond.code z bytes maxL rt).before a0 Z = true) (hy : owner ≠ "java/lang/invoke/MethodHandle" ∧ owner ≠ "java/lang/invoke/VarHandle")
    (hM : OwnMet l Z z bytes maxL rt [] rm (Value.ref a :: argsL).toArray h Qc) (E : Exa Z h a Cn) (eT : T.heap = h) (hml : Ls.size = c.maxLocals) (hlen : parseMethodDescriptor y.desc = some ⟨ps, r⟩) (hl : argsL.length = ps.length) (hf : rm.frames + 1 ≤ R.frames) (hW : (rest.map fun v => v.category).sum ≤ W) (hlo : W + (maxL + 11) + rm.locals ≤ R.locals) (hc : cells + rm.cells ≤ R.cells) (hs : slots + rm.slots ≤ R.slots)
    (hd : decode bc pc = .ok (.invokevirtual index, 3)) (hp : pc + 3 = pc') (hst : st = argsL.reverse ++ Value.ref a :: rest)
    (kt : ∀ v T' L, Stand p l e R s m args below meth c T' (locs ++ L) (cells + rm.cells) (slots + rm.slots) → Qc v T'.heap L → Ends p.tables e below Fz (T'.setTop (mkF m pc' Ls (v.toList ++ rest)))) : Ends p.tables e below Fz (T.setTop (mkF m pc Ls st)) := by
  subst hp hst
  obtain ⟨cq, kq, qa, qb, qc⟩ := isOf hZ eT E
  obtain ⟨v, vm₁, ⟨T', L', k', n'⟩, -, X', ⟨Lc, hQ, l', y', z'⟩, st⟩ := X.virtualBackUp hx (x := y) (y := z) hown (mvT hZ w1) (mvT hZ wm) (mvT hZ wd) hy (mvT hZ ws) (mvT hZ w2) (backOf (W := W) hM hZ w4 w3 hf hlo) qa qc (g := mkF m pc Ls (argsL.reverse ++ Value.ref a :: rest)) rfl hml (Steps.refl _) (argsL := argsL) (rest := rest) (lenOf hlen hl) rfl (by show 2 * 0 + _ ≤ _; omega) (hb hby hd) (fun _ _ => ⟨rfl, eT, hc, hs⟩)
  dsimp only [Pt.U, Pt.locs, Pt.cells, Pt.slots] at X' l' y' z' st hQ
  subst l' y' z'
  exact Ends.tr st (kt v T' Lc X' hQ)
end OwnH

def OwnG (Z : State) (a_FALSE a_TRUE a_UNKNOWN : Addr) : Prop := (Sta Z Z.heap "com/example/latticework/latticework/core/Truth" "FALSE" "Lcom/example/latticework/latticework/core/Truth;" (.ref a_FALSE)) ∧ (Exa Z Z.heap a_FALSE "com/example/latticework/latticework/core/Truth") ∧ (Sta Z Z.heap "com/example/latticework/latticework/core/Truth" "TRUE" "Lcom/example/latticework/latticework/core/Truth;" (.ref a_TRUE)) ∧ (Exa Z Z.heap a_TRUE "com/example/latticework/latticework/core/Truth") ∧ (Sta Z Z.heap "com/example/latticework/latticework/core/Truth" "UNKNOWN" "Lcom/example/latticework/latticework/core/Truth;" (.ref a_UNKNOWN)) ∧ (Exa Z Z.heap a_UNKNOWN "com/example/latticework/latticework/core/Truth") ∧ (Fld Z Z.heap a_FALSE "java/lang/Enum" "ordinal" "I" (.int (1 : Int32))) ∧ (Fld Z Z.heap a_UNKNOWN "java/lang/Enum" "ordinal" "I" (.int (2 : Int32))) ∧ (Fld Z Z.heap a_TRUE "java/lang/Enum" "ordinal" "I" (.int (0 : Int32)))
theorem g_S_FALSE {Z : State} {a_FALSE a_TRUE a_UNKNOWN : Addr} (G : OwnG Z a_FALSE a_TRUE a_UNKNOWN) : Sta Z Z.heap "com/example/latticework/latticework/core/Truth" "FALSE" "Lcom/example/latticework/latticework/core/Truth;" (.ref a_FALSE) := G.1
theorem g_E_FALSE {Z : State} {a_FALSE a_TRUE a_UNKNOWN : Addr} (G : OwnG Z a_FALSE a_TRUE a_UNKNOWN) : Exa Z Z.heap a_FALSE "com/example/latticework/latticework/core/Truth" := G.2.1
theorem g_S_TRUE {Z : State} {a_FALSE a_TRUE a_UNKNOWN : Addr} (G : OwnG Z a_FALSE a_TRUE a_UNKNOWN) : Sta Z Z.heap "com/example/latticework/latticework/core/Truth" "TRUE" "Lcom/example/latticework/latticework/core/Truth;" (.ref a_TRUE) := G.2.2.1
theorem g_E_TRUE {Z : State} {a_FALSE a_TRUE a_UNKNOWN : Addr} (G : OwnG Z a_FALSE a_TRUE a_UNKNOWN) : Exa Z Z.heap a_TRUE "com/example/latticework/latticework/core/Truth" := G.2.2.2.1
theorem g_S_UNKNOWN {Z : State} {a_FALSE a_TRUE a_UNKNOWN : Addr} (G : OwnG Z a_FALSE a_TRUE a_UNKNOWN) : Sta Z Z.heap "com/example/latticework/latticework/core/Truth" "UNKNOWN" "Lcom/example/latticework/latticework/core/Truth;" (.ref a_UNKNOWN) := G.2.2.2.2.1
theorem g_E_UNKNOWN {Z : State} {a_FALSE a_TRUE a_UNKNOWN : Addr} (G : OwnG Z a_FALSE a_TRUE a_UNKNOWN) : Exa Z Z.heap a_UNKNOWN "com/example/latticework/latticework/core/Truth" := G.2.2.2.2.2.1
theorem g_F_FALSE_ordinal {Z : State} {a_FALSE a_TRUE a_UNKNOWN : Addr} (G : OwnG Z a_FALSE a_TRUE a_UNKNOWN) : Fld Z Z.heap a_FALSE "java/lang/Enum" "ordinal" "I" (.int (1 : Int32)) := G.2.2.2.2.2.2.1
theorem g_F_UNKNOWN_ordinal {Z : State} {a_FALSE a_TRUE a_UNKNOWN : Addr} (G : OwnG Z a_FALSE a_TRUE a_UNKNOWN) : Fld Z Z.heap a_UNKNOWN "java/lang/Enum" "ordinal" "I" (.int (2 : Int32)) := G.2.2.2.2.2.2.2.1
theorem g_F_TRUE_ordinal {Z : State} {a_FALSE a_TRUE a_UNKNOWN : Addr} (G : OwnG Z a_FALSE a_TRUE a_UNKNOWN) : Fld Z Z.heap a_TRUE "java/lang/Enum" "ordinal" "I" (.int (0 : Int32)) := G.2.2.2.2.2.2.2.2
theorem tw_0 : (Jvm.Cond.methodLink "com/example/latticework/latticework/core/TruthOfPinLaw" (7 : Nat) ({ cls := "com/example/latticework/latticework/core/Truth", name := "of", desc := "(Z)Lcom/example/latticework/latticework/core/Truth;" } : Jvm.MethodName)) ∈ tables_1 := List.mem_of_getElem? (i := 0) rfl
theorem tw_1 : (Jvm.Cond.static ({ cls := "com/example/latticework/latticework/core/Truth", name := "of", desc := "(Z)Lcom/example/latticework/latticework/core/Truth;" } : Jvm.MethodName)) ∈ tables_1 := List.mem_of_getElem? (i := 1) rfl
theorem tw_2 : (Jvm.Cond.initialized "com/example/latticework/latticework/core/Truth") ∈ tables_1 := List.mem_of_getElem? (i := 2) rfl
theorem tw_3 : (Jvm.Cond.code ({ cls := "com/example/latticework/latticework/core/Truth", name := "of", desc := "(Z)Lcom/example/latticework/latticework/core/Truth;" } : Jvm.MethodName) prog_55_method_4_code (1 : Nat) (Option.some (Jvm.ClassFile.FieldType.object "com/example/latticework/latticework/core/Truth"))) ∈ tables_1 := List.mem_of_getElem? (i := 3) rfl
theorem tw_4 : (Jvm.Cond.fieldLink "com/example/latticework/latticework/core/Truth" (7 : Nat) "com/example/latticework/latticework/core/Truth" "FALSE" "Lcom/example/latticework/latticework/core/Truth;") ∈ tables_1 := List.mem_of_getElem? (i := 4) rfl
theorem tw_5 : (Jvm.Cond.laysStatic "com/example/latticework/latticework/core/Truth" "FALSE" "Lcom/example/latticework/latticework/core/Truth;") ∈ tables_1 := List.mem_of_getElem? (i := 5) rfl
theorem tw_6 : (Jvm.Cond.fieldLink "com/example/latticework/latticework/core/Truth" (3 : Nat) "com/example/latticework/latticework/core/Truth" "TRUE" "Lcom/example/latticework/latticework/core/Truth;") ∈ tables_1 := List.mem_of_getElem? (i := 6) rfl
theorem tw_7 : (Jvm.Cond.laysStatic "com/example/latticework/latticework/core/Truth" "TRUE" "Lcom/example/latticework/latticework/core/Truth;") ∈ tables_1 := List.mem_of_getElem? (i := 7) rfl
theorem tw_8 : (Jvm.Cond.fieldLink "com/example/latticework/latticework/core/TruthOfPinLaw" (17 : Nat) "com/example/latticework/latticework/core/Truth" "FALSE" "Lcom/example/latticework/latticework/core/Truth;") ∈ tables_1 := List.mem_of_getElem? (i := 8) rfl
theorem tw_9 : (Jvm.Cond.fieldLink "com/example/latticework/latticework/core/TruthOfPinLaw" (13 : Nat) "com/example/latticework/latticework/core/Truth" "TRUE" "Lcom/example/latticework/latticework/core/Truth;") ∈ tables_1 := List.mem_of_getElem? (i := 9) rfl
theorem tw_10 : (Jvm.Cond.fieldLink "com/example/latticework/latticework/core/TruthOfPinLaw" (20 : Nat) "com/example/latticework/latticework/core/Truth" "UNKNOWN" "Lcom/example/latticework/latticework/core/Truth;") ∈ tables_1 := List.mem_of_getElem? (i := 10) rfl
theorem tw_11 : (Jvm.Cond.laysStatic "com/example/latticework/latticework/core/Truth" "UNKNOWN" "Lcom/example/latticework/latticework/core/Truth;") ∈ tables_1 := List.mem_of_getElem? (i := 11) rfl
theorem tw_12 : (Jvm.Cond.methodLink "com/example/latticework/latticework/core/TruthOfPinLaw" (23 : Nat) ({ cls := "com/example/latticework/latticework/core/Truth", name := "and", desc := "(Lcom/example/latticework/latticework/core/Truth;)Lcom/example/latticework/latticework/core/Truth;" } : Jvm.MethodName)) ∈ tables_1 := List.mem_of_getElem? (i := 12) rfl
theorem tw_13 : (Jvm.Cond.declares ({ cls := "com/example/latticework/latticework/core/Truth", name := "and", desc := "(Lcom/example/latticework/latticework/core/Truth;)Lcom/example/latticework/latticework/core/Truth;" } : Jvm.MethodName)) ∈ tables_1 := List.mem_of_getElem? (i := 13) rfl
theorem tw_14 : (Jvm.Cond.instanceMethod ({ cls := "com/example/latticework/latticework/core/Truth", name := "and", desc := "(Lcom/example/latticework/latticework/core/Truth;)Lcom/example/latticework/latticework/core/Truth;" } : Jvm.MethodName)) ∈ tables_1 := List.mem_of_getElem? (i := 14) rfl
theorem tw_15 : (Jvm.Cond.selects "com/example/latticework/latticework/core/Truth" ({ cls := "com/example/latticework/latticework/core/Truth", name := "and", desc := "(Lcom/example/latticework/latticework/core/Truth;)Lcom/example/latticework/latticework/core/Truth;" } : Jvm.MethodName) ({ cls := "com/example/latticework/latticework/core/Truth", name := "and", desc := "(Lcom/example/latticework/latticework/core/Truth;)Lcom/example/latticework/latticework/core/Truth;" } : Jvm.MethodName)) ∈ tables_1 := List.mem_of_getElem? (i := 15) rfl
theorem tw_16 : (Jvm.Cond.code ({ cls := "com/example/latticework/latticework/core/Truth", name := "and", desc := "(Lcom/example/latticework/latticework/core/Truth;)Lcom/example/latticework/latticework/core/Truth;" } : Jvm.MethodName) prog_55_method_6_code (2 : Nat) (Option.some (Jvm.ClassFile.FieldType.object "com/example/latticework/latticework/core/Truth"))) ∈ tables_1 := List.mem_of_getElem? (i := 16) rfl
theorem tw_17 : (Jvm.Cond.methodLink "com/example/latticework/latticework/core/TruthOfPinLaw" (27 : Nat) ({ cls := "com/example/latticework/latticework/core/Truth", name := "or", desc := "(Lcom/example/latticework/latticework/core/Truth;)Lcom/example/latticework/latticework/core/Truth;" } : Jvm.MethodName)) ∈ tables_1 := List.mem_of_getElem? (i := 17) rfl
theorem tw_18 : (Jvm.Cond.declares ({ cls := "com/example/latticework/latticework/core/Truth", name := "or", desc := "(Lcom/example/latticework/latticework/core/Truth;)Lcom/example/latticework/latticework/core/Truth;" } : Jvm.MethodName)) ∈ tables_1 := List.mem_of_getElem? (i := 18) rfl
theorem tw_19 : (Jvm.Cond.instanceMethod ({ cls := "com/example/latticework/latticework/core/Truth", name := "or", desc := "(Lcom/example/latticework/latticework/core/Truth;)Lcom/example/latticework/latticework/core/Truth;" } : Jvm.MethodName)) ∈ tables_1 := List.mem_of_getElem? (i := 19) rfl
theorem tw_20 : (Jvm.Cond.selects "com/example/latticework/latticework/core/Truth" ({ cls := "com/example/latticework/latticework/core/Truth", name := "or", desc := "(Lcom/example/latticework/latticework/core/Truth;)Lcom/example/latticework/latticework/core/Truth;" } : Jvm.MethodName) ({ cls := "com/example/latticework/latticework/core/Truth", name := "or", desc := "(Lcom/example/latticework/latticework/core/Truth;)Lcom/example/latticework/latticework/core/Truth;" } : Jvm.MethodName)) ∈ tables_1 := List.mem_of_getElem? (i := 20) rfl
theorem tw_21 : (Jvm.Cond.code ({ cls := "com/example/latticework/latticework/core/Truth", name := "or", desc := "(Lcom/example/latticework/latticework/core/Truth;)Lcom/example/latticework/latticework/core/Truth;" } : Jvm.MethodName) prog_55_method_7_code (2 : Nat) (Option.some (Jvm.ClassFile.FieldType.object "com/example/latticework/latticework/core/Truth"))) ∈ tables_1 := List.mem_of_getElem? (i := 21) rfl
theorem tw_22 : (Jvm.Cond.methodLink "com/example/latticework/latticework/core/Truth" (41 : Nat) ({ cls := "com/example/latticework/latticework/core/Truth", name := "not", desc := "()Lcom/example/latticework/latticework/core/Truth;" } : Jvm.MethodName)) ∈ tables_1 := List.mem_of_getElem? (i := 22) rfl
theorem tw_23 : (Jvm.Cond.declares ({ cls := "com/example/latticework/latticework/core/Truth", name := "not", desc := "()Lcom/example/latticework/latticework/core/Truth;" } : Jvm.MethodName)) ∈ tables_1 := List.mem_of_getElem? (i := 23) rfl
theorem tw_24 : (Jvm.Cond.instanceMethod ({ cls := "com/example/latticework/latticework/core/Truth", name := "not", desc := "()Lcom/example/latticework/latticework/core/Truth;" } : Jvm.MethodName)) ∈ tables_1 := List.mem_of_getElem? (i := 24) rfl
theorem tw_25 : (Jvm.Cond.selects "com/example/latticework/latticework/core/Truth" ({ cls := "com/example/latticework/latticework/core/Truth", name := "not", desc := "()Lcom/example/latticework/latticework/core/Truth;" } : Jvm.MethodName) ({ cls := "com/example/latticework/latticework/core/Truth", name := "not", desc := "()Lcom/example/latticework/latticework/core/Truth;" } : Jvm.MethodName)) ∈ tables_1 := List.mem_of_getElem? (i := 25) rfl
theorem tw_26 : (Jvm.Cond.code ({ cls := "com/example/latticework/latticework/core/Truth", name := "not", desc := "()Lcom/example/latticework/latticework/core/Truth;" } : Jvm.MethodName) prog_55_method_5_code (1 : Nat) (Option.some (Jvm.ClassFile.FieldType.object "com/example/latticework/latticework/core/Truth"))) ∈ tables_1 := List.mem_of_getElem? (i := 26) rfl
theorem tw_27 : (Jvm.Cond.methodLink "com/example/latticework/latticework/core/Truth" (32 : Nat) ({ cls := "com/example/latticework/latticework/core/Truth", name := "ordinal", desc := "()I" } : Jvm.MethodName)) ∈ tables_1 := List.mem_of_getElem? (i := 27) rfl
theorem tw_28 : (Jvm.Cond.sameMethod "com/example/latticework/latticework/core/Truth" "java/lang/Enum" "ordinal" "()I") ∈ tables_1 := List.mem_of_getElem? (i := 28) rfl
theorem tw_29 : (Jvm.Cond.declares ({ cls := "java/lang/Enum", name := "ordinal", desc := "()I" } : Jvm.MethodName)) ∈ tables_1 := List.mem_of_getElem? (i := 29) rfl
theorem tw_30 : (Jvm.Cond.instanceMethod ({ cls := "java/lang/Enum", name := "ordinal", desc := "()I" } : Jvm.MethodName)) ∈ tables_1 := List.mem_of_getElem? (i := 30) rfl
theorem tw_31 : (Jvm.Cond.selects "com/example/latticework/latticework/core/Truth" ({ cls := "com/example/latticework/latticework/core/Truth", name := "ordinal", desc := "()I" } : Jvm.MethodName) ({ cls := "java/lang/Enum", name := "ordinal", desc := "()I" } : Jvm.MethodName)) ∈ tables_1 := List.mem_of_getElem? (i := 31) rfl
theorem tw_32 : (Jvm.Cond.initialized "java/lang/Enum") ∈ tables_1 := List.mem_of_getElem? (i := 32) rfl
theorem tw_33 : (Jvm.Cond.code ({ cls := "java/lang/Enum", name := "ordinal", desc := "()I" } : Jvm.MethodName) jdk_37_method_2_code (1 : Nat) (Option.some Jvm.ClassFile.FieldType.int)) ∈ tables_1 := List.mem_of_getElem? (i := 33) rfl
theorem tw_34 : (Jvm.Cond.fieldLink "java/lang/Enum" (7 : Nat) "java/lang/Enum" "ordinal" "I") ∈ tables_1 := List.mem_of_getElem? (i := 34) rfl
theorem tw_36 : (Jvm.Cond.methodLink "com/example/latticework/latticework/core/Truth" (45 : Nat) ({ cls := "com/example/latticework/latticework/core/Truth", name := "and", desc := "(Lcom/example/latticework/latticework/core/Truth;)Lcom/example/latticework/latticework/core/Truth;" } : Jvm.MethodName)) ∈ tables_1 := List.mem_of_getElem? (i := 36) rfl
theorem tw_37 : (Jvm.Cond.methodLink "com/example/latticework/latticework/core/TruthOfPinLaw" (30 : Nat) ({ cls := "com/example/latticework/latticework/core/Truth", name := "not", desc := "()Lcom/example/latticework/latticework/core/Truth;" } : Jvm.MethodName)) ∈ tables_1 := List.mem_of_getElem? (i := 37) rfl
theorem d1_0 : decode prog_55_method_4_code 0 = .ok (.iload_n 0, 1) := by decide +kernel
theorem d1_1 : decode prog_55_method_4_code 1 = .ok (.ifCond .eq 9, 3) := by decide +kernel
theorem d1_4 : decode prog_55_method_4_code 4 = .ok (.getstatic 3, 3) := by decide +kernel
theorem d1_7 : decode prog_55_method_4_code 7 = .ok (.goto 6, 3) := by decide +kernel
theorem d1_10 : decode prog_55_method_4_code 10 = .ok (.getstatic 7, 3) := by decide +kernel
theorem d1_13 : decode prog_55_method_4_code 13 = .ok (.areturn, 1) := by decide +kernel
theorem d2_0 : decode prog_55_method_6_code 0 = .ok (.aload_n 0, 1) := by decide +kernel
theorem d2_1 : decode prog_55_method_6_code 1 = .ok (.getstatic 7, 3) := by decide +kernel
theorem d2_4 : decode prog_55_method_6_code 4 = .ok (.if_acmp .eq 10, 3) := by decide +kernel
theorem d2_7 : decode prog_55_method_6_code 7 = .ok (.aload_n 1, 1) := by decide +kernel
theorem d2_8 : decode prog_55_method_6_code 8 = .ok (.getstatic 7, 3) := by decide +kernel
theorem d2_11 : decode prog_55_method_6_code 11 = .ok (.if_acmp .ne 7, 3) := by decide +kernel
theorem d2_14 : decode prog_55_method_6_code 14 = .ok (.getstatic 7, 3) := by decide +kernel
theorem d2_17 : decode prog_55_method_6_code 17 = .ok (.areturn, 1) := by decide +kernel
theorem d2_18 : decode prog_55_method_6_code 18 = .ok (.aload_n 0, 1) := by decide +kernel
theorem d2_19 : decode prog_55_method_6_code 19 = .ok (.getstatic 3, 3) := by decide +kernel
theorem d2_22 : decode prog_55_method_6_code 22 = .ok (.if_acmp .ne 16, 3) := by decide +kernel
theorem d2_25 : decode prog_55_method_6_code 25 = .ok (.aload_n 1, 1) := by decide +kernel
theorem d2_26 : decode prog_55_method_6_code 26 = .ok (.getstatic 3, 3) := by decide +kernel
theorem d2_29 : decode prog_55_method_6_code 29 = .ok (.if_acmp .ne 9, 3) := by decide +kernel
theorem d2_32 : decode prog_55_method_6_code 32 = .ok (.getstatic 3, 3) := by decide +kernel
theorem d2_35 : decode prog_55_method_6_code 35 = .ok (.goto 6, 3) := by decide +kernel
theorem d2_41 : decode prog_55_method_6_code 41 = .ok (.areturn, 1) := by decide +kernel
theorem d3_0 : decode prog_55_method_7_code 0 = .ok (.aload_n 0, 1) := by decide +kernel
theorem d3_1 : decode prog_55_method_7_code 1 = .ok (.invokevirtual 41, 3) := by decide +kernel
theorem d3_4 : decode prog_55_method_7_code 4 = .ok (.aload_n 1, 1) := by decide +kernel
theorem d3_5 : decode prog_55_method_7_code 5 = .ok (.invokevirtual 41, 3) := by decide +kernel
theorem d3_8 : decode prog_55_method_7_code 8 = .ok (.invokevirtual 45, 3) := by decide +kernel
theorem d3_11 : decode prog_55_method_7_code 11 = .ok (.invokevirtual 41, 3) := by decide +kernel
theorem d3_14 : decode prog_55_method_7_code 14 = .ok (.areturn, 1) := by decide +kernel
theorem d4_0 : decode prog_55_method_5_code 0 = .ok (.aload_n 0, 1) := by decide +kernel
theorem d4_1 : decode prog_55_method_5_code 1 = .ok (.invokevirtual 32, 3) := by decide +kernel
theorem d4_4 : decode prog_55_method_5_code 4 = .ok (.tableswitch 28 0 2 #[38, 44, 50], 28) := by decide +kernel
theorem d4_42 : decode prog_55_method_5_code 42 = .ok (.getstatic 7, 3) := by decide +kernel
theorem d4_45 : decode prog_55_method_5_code 45 = .ok (.goto 12, 3) := by decide +kernel
theorem d4_48 : decode prog_55_method_5_code 48 = .ok (.getstatic 3, 3) := by decide +kernel
theorem d4_51 : decode prog_55_method_5_code 51 = .ok (.goto 6, 3) := by decide +kernel
theorem d4_57 : decode prog_55_method_5_code 57 = .ok (.areturn, 1) := by decide +kernel
theorem d5_0 : decode jdk_37_method_2_code 0 = .ok (.aload_n 0, 1) := by decide +kernel
theorem d5_1 : decode jdk_37_method_2_code 1 = .ok (.getfield 7, 3) := by decide +kernel
theorem d5_4 : decode jdk_37_method_2_code 4 = .ok (.ireturn, 1) := by decide +kernel
theorem pd_0 : parseMethodDescriptor "()I" = some ⟨[], some .int⟩ := by decide +kernel
theorem pd_1 : parseMethodDescriptor "()Lcom/example/latticework/latticework/core/Truth;" = some ⟨[], some (.object "com/example/latticework/latticework/core/Truth")⟩ := by decide +kernel
theorem pd_2 : parseMethodDescriptor "(Lcom/example/latticework/latticework/core/Truth;)Lcom/example/latticework/latticework/core/Truth;" = some ⟨[(.object "com/example/latticework/latticework/core/Truth")], some (.object "com/example/latticework/latticework/core/Truth")⟩ := by decide +kernel
theorem pd_3 : parseMethodDescriptor "(Z)Lcom/example/latticework/latticework/core/Truth;" = some ⟨[.boolean], some (.object "com/example/latticework/latticework/core/Truth")⟩ := by decide +kernel
theorem pn_0 : plainName "com/example/latticework/latticework/core/Truth" = true := by first | (simp [plainName, overriddenIn]; done) | decide +kernel
theorem pn_1 : plainName "java/lang/Enum" = true := by first | (simp [plainName, overriddenIn]; done) | decide +kernel
theorem pn_2 : plainName "com/example/latticework/latticework/core/TruthOfPinLaw" = true := by first | (simp [plainName, overriddenIn]; done) | decide +kernel
theorem ef_1_1 (m : MethodId) (a_FALSE a_TRUE a_UNKNOWN : Addr) : entryFrame m #[(.int (1 : Int32))] 1 = mkF m 0 #[.val (.int (1 : Int32))] [] := by first | (simp [entryFrame, mkF, argsToLocals, Value.category]; done) | rfl
theorem ef_1_0 (m : MethodId) (a_FALSE a_TRUE a_UNKNOWN : Addr) : entryFrame m #[(.int (0 : Int32))] 1 = mkF m 0 #[.val (.int (0 : Int32))] [] := by first | (simp [entryFrame, mkF, argsToLocals, Value.category]; done) | rfl
theorem ef_2_TT (m : MethodId) (a_FALSE a_TRUE a_UNKNOWN : Addr) : entryFrame m #[(.ref a_TRUE), (.ref a_TRUE)] 2 = mkF m 0 #[.val (.ref a_TRUE), .val (.ref a_TRUE)] [] := by first | (simp [entryFrame, mkF, argsToLocals, Value.category]; done) | rfl
theorem ef_2_TF (m : MethodId) (a_FALSE a_TRUE a_UNKNOWN : Addr) : entryFrame m #[(.ref a_TRUE), (.ref a_FALSE)] 2 = mkF m 0 #[.val (.ref a_TRUE), .val (.ref a_FALSE)] [] := by first | (simp [entryFrame, mkF, argsToLocals, Value.category]; done) | rfl
theorem ef_2_FT (m : MethodId) (a_FALSE a_TRUE a_UNKNOWN : Addr) : entryFrame m #[(.ref a_FALSE), (.ref a_TRUE)] 2 = mkF m 0 #[.val (.ref a_FALSE), .val (.ref a_TRUE)] [] := by first | (simp [entryFrame, mkF, argsToLocals, Value.category]; done) | rfl
theorem ef_2_FF (m : MethodId) (a_FALSE a_TRUE a_UNKNOWN : Addr) : entryFrame m #[(.ref a_FALSE), (.ref a_FALSE)] 2 = mkF m 0 #[.val (.ref a_FALSE), .val (.ref a_FALSE)] [] := by first | (simp [entryFrame, mkF, argsToLocals, Value.category]; done) | rfl
theorem ef_5_T (m : MethodId) (a_FALSE a_TRUE a_UNKNOWN : Addr) : entryFrame m #[(.ref a_TRUE)] 1 = mkF m 0 #[.val (.ref a_TRUE)] [] := by first | (simp [entryFrame, mkF, argsToLocals, Value.category]; done) | rfl
theorem ef_5_F (m : MethodId) (a_FALSE a_TRUE a_UNKNOWN : Addr) : entryFrame m #[(.ref a_FALSE)] 1 = mkF m 0 #[.val (.ref a_FALSE)] [] := by first | (simp [entryFrame, mkF, argsToLocals, Value.category]; done) | rfl
theorem ef_4_T (m : MethodId) (a_FALSE a_TRUE a_UNKNOWN : Addr) : entryFrame m #[(.ref a_TRUE)] 1 = mkF m 0 #[.val (.ref a_TRUE)] [] := by first | (simp [entryFrame, mkF, argsToLocals, Value.category]; done) | rfl
theorem ef_4_F (m : MethodId) (a_FALSE a_TRUE a_UNKNOWN : Addr) : entryFrame m #[(.ref a_FALSE)] 1 = mkF m 0 #[.val (.ref a_FALSE)] [] := by first | (simp [entryFrame, mkF, argsToLocals, Value.category]; done) | rfl
theorem ef_3_TT (m : MethodId) (a_FALSE a_TRUE a_UNKNOWN : Addr) : entryFrame m #[(.ref a_TRUE), (.ref a_TRUE)] 2 = mkF m 0 #[.val (.ref a_TRUE), .val (.ref a_TRUE)] [] := by first | (simp [entryFrame, mkF, argsToLocals, Value.category]; done) | rfl
theorem ef_3_TF (m : MethodId) (a_FALSE a_TRUE a_UNKNOWN : Addr) : entryFrame m #[(.ref a_TRUE), (.ref a_FALSE)] 2 = mkF m 0 #[.val (.ref a_TRUE), .val (.ref a_FALSE)] [] := by first | (simp [entryFrame, mkF, argsToLocals, Value.category]; done) | rfl
theorem ef_3_FT (m : MethodId) (a_FALSE a_TRUE a_UNKNOWN : Addr) : entryFrame m #[(.ref a_FALSE), (.ref a_TRUE)] 2 = mkF m 0 #[.val (.ref a_FALSE), .val (.ref a_TRUE)] [] := by first | (simp [entryFrame, mkF, argsToLocals, Value.category]; done) | rfl
theorem ef_3_FF (m : MethodId) (a_FALSE a_TRUE a_UNKNOWN : Addr) : entryFrame m #[(.ref a_FALSE), (.ref a_FALSE)] 2 = mkF m 0 #[.val (.ref a_FALSE), .val (.ref a_FALSE)] [] := by first | (simp [entryFrame, mkF, argsToLocals, Value.category]; done) | rfl
theorem ef_0 (m : MethodId) (x0 : Int32) (x1 : Int32) : entryFrame m #[(.int x0), (.int x1)] maxLocals = mkF m 0 #[.val (.int x0), .val (.int x1), .unset, .unset, .unset, .unset, .unset, .unset, .unset, .unset, .unset, .unset] [] := by first | (simp [entryFrame, mkF, argsToLocals, Value.category, maxLocals]; done) | rfl
set_option maxRecDepth 65536 in
set_option maxHeartbeats 40000000 in
theorem rm1_1 (l : Launch) (Z : State) (a0 : Array Value) (hw : ∀ d ∈ tables_1, d.before a0 Z = true)  (h0 : Heap) {a_FALSE a_TRUE a_UNKNOWN : Addr} (G : OwnG Z a_FALSE a_TRUE a_UNKNOWN) (O : Ext Z.heap h0) :
    OwnMet l Z (⟨"com/example/latticework/latticework/core/Truth", "of", "(Z)Lcom/example/latticework/latticework/core/Truth;"⟩ : MethodName) prog_55_method_4_code 1 (some (.object "com/example/latticework/latticework/core/Truth")) [] ({ frames := 0, cells := 0, slots := 0, locals := 0 } : Room) #[(.int (1 : Int32))] h0 (fun v h L => v = some (.ref a_TRUE) ∧ L = [] ∧ h = h0) := by
  refine own_body (plainFor_of_name pn_0) (fun m => ef_1_1 m a_FALSE a_TRUE a_UNKNOWN) ?_
  intro p e s m below meth c s₁ X0 hx hby hml hown hnm hret hlk hZ e0
  replace hown : s.vm.findClass "com/example/latticework/latticework/core/Truth" = some m.cls := hown
  replace hml : c.maxLocals = 1 := hml
  show Ends p.tables e below _ (s₁.setTop (mkF m 0 #[.val (.int (1 : Int32))] []))
  refine own_iloadN X0 hx hby d1_0 rfl rfl ?_
  refine own_if_eq X0 hx hby d1_1 (pcY := 10) (pcN := 4) (by decide) rfl (fun (hc1 : (1 : Int32) = (0 : Int32)) => False.elim (by exact absurd hc1 (by decide))) (fun (hc1 : ¬ (1 : Int32) = (0 : Int32)) => ?_)
  refine own_getstatic X0 hx hby hZ hown (host := "") (Or.inl (hw _ tw_6)) Via.refl e0 ((g_S_TRUE G).ext O) d1_4 rfl (fun T2 X2 e2 => ?_)
  refine own_goto X2 hx hby d1_7 (pc' := 13) (by decide) ?_
  refine own_ret X2 hx hby hret hlk d1_13 (.ref a_TRUE) rfl (Or.inr (Or.inr ⟨rfl, rfl, rfl⟩)) (by decide) (by decide) ?_
  exact ⟨rfl, rfl, e2⟩
set_option maxRecDepth 65536 in
set_option maxHeartbeats 40000000 in
theorem rm1_0 (l : Launch) (Z : State) (a0 : Array Value) (hw : ∀ d ∈ tables_1, d.before a0 Z = true)  (h0 : Heap) {a_FALSE a_TRUE a_UNKNOWN : Addr} (G : OwnG Z a_FALSE a_TRUE a_UNKNOWN) (O : Ext Z.heap h0) :
    OwnMet l Z (⟨"com/example/latticework/latticework/core/Truth", "of", "(Z)Lcom/example/latticework/latticework/core/Truth;"⟩ : MethodName) prog_55_method_4_code 1 (some (.object "com/example/latticework/latticework/core/Truth")) [] ({ frames := 0, cells := 0, slots := 0, locals := 0 } : Room) #[(.int (0 : Int32))] h0 (fun v h L => v = some (.ref a_FALSE) ∧ L = [] ∧ h = h0) := by
  refine own_body (plainFor_of_name pn_0) (fun m => ef_1_0 m a_FALSE a_TRUE a_UNKNOWN) ?_
  intro p e s m below meth c s₁ X0 hx hby hml hown hnm hret hlk hZ e0
  replace hown : s.vm.findClass "com/example/latticework/latticework/core/Truth" = some m.cls := hown
  replace hml : c.maxLocals = 1 := hml
  show Ends p.tables e below _ (s₁.setTop (mkF m 0 #[.val (.int (0 : Int32))] []))
  refine own_iloadN X0 hx hby d1_0 rfl rfl ?_
  refine own_if_eq X0 hx hby d1_1 (pcY := 10) (pcN := 4) (by decide) rfl (fun (hc3 : (0 : Int32) = (0 : Int32)) => ?_) (fun (hc3 : ¬ (0 : Int32) = (0 : Int32)) => False.elim (by exact absurd hc3 (by decide)))
  refine own_getstatic X0 hx hby hZ hown (host := "") (Or.inl (hw _ tw_4)) Via.refl e0 ((g_S_FALSE G).ext O) d1_10 rfl (fun T4 X4 e4 => ?_)
  refine own_ret X4 hx hby hret hlk d1_13 (.ref a_FALSE) rfl (Or.inr (Or.inr ⟨rfl, rfl, rfl⟩)) (by decide) (by decide) ?_
  exact ⟨rfl, rfl, e4⟩
set_option maxRecDepth 65536 in
set_option maxHeartbeats 40000000 in
theorem rm2_TT (l : Launch) (Z : State) (a0 : Array Value) (hw : ∀ d ∈ tables_1, d.before a0 Z = true)  (h0 : Heap) {a_FALSE a_TRUE a_UNKNOWN : Addr} (G : OwnG Z a_FALSE a_TRUE a_UNKNOWN) (O : Ext Z.heap h0) :
    OwnMet l Z (⟨"com/example/latticework/latticework/core/Truth", "and", "(Lcom/example/latticework/latticework/core/Truth;)Lcom/example/latticework/latticework/core/Truth;"⟩ : MethodName) prog_55_method_6_code 2 (some (.object "com/example/latticework/latticework/core/Truth")) [] ({ frames := 0, cells := 0, slots := 0, locals := 0 } : Room) #[(.ref a_TRUE), (.ref a_TRUE)] h0 (fun v h L => v = some (.ref a_TRUE) ∧ L = [] ∧ h = h0) := by
  refine own_body (plainFor_of_name pn_0) (fun m => ef_2_TT m a_FALSE a_TRUE a_UNKNOWN) ?_
  intro p e s m below meth c s₁ X0 hx hby hml hown hnm hret hlk hZ e0
  replace hown : s.vm.findClass "com/example/latticework/latticework/core/Truth" = some m.cls := hown
  replace hml : c.maxLocals = 2 := hml
  show Ends p.tables e below _ (s₁.setTop (mkF m 0 #[.val (.ref a_TRUE), .val (.ref a_TRUE)] []))
  refine own_aloadN X0 hx hby d2_0 rfl rfl rfl ?_
  refine own_getstatic X0 hx hby hZ hown (host := "") (Or.inl (hw _ tw_4)) Via.refl e0 ((g_S_FALSE G).ext O) d2_1 rfl (fun T5 X5 e5 => ?_)
  refine own_acmp_eq X5 hx hby d2_4 (pcY := 14) (pcN := 7) (by decide) rfl rfl rfl (fun (hc6 : ((.ref a_TRUE) : Value) = (.ref a_FALSE)) => False.elim (by exact absurd (Value.ref.inj hc6) ((g_F_TRUE_ordinal G).ne (g_F_FALSE_ordinal G) (by decide)))) (fun (hc6 : ¬ ((.ref a_TRUE) : Value) = (.ref a_FALSE)) => ?_)
  refine own_aloadN X5 hx hby d2_7 rfl rfl rfl ?_
  refine own_getstatic X5 hx hby hZ hown (host := "") (Or.inl (hw _ tw_4)) Via.refl e5 ((g_S_FALSE G).ext O) d2_8 rfl (fun T7 X7 e7 => ?_)
  refine own_acmp_ne X7 hx hby d2_11 (pcY := 18) (pcN := 14) (by decide) rfl rfl rfl (fun (hc8 : ¬ ((.ref a_TRUE) : Value) = (.ref a_FALSE)) => ?_) (fun (hc8 : ((.ref a_TRUE) : Value) = (.ref a_FALSE)) => False.elim (by exact absurd (Value.ref.inj hc8) ((g_F_TRUE_ordinal G).ne (g_F_FALSE_ordinal G) (by decide))))
  refine own_aloadN X7 hx hby d2_18 rfl rfl rfl ?_
  refine own_getstatic X7 hx hby hZ hown (host := "") (Or.inl (hw _ tw_6)) Via.refl e7 ((g_S_TRUE G).ext O) d2_19 rfl (fun T9 X9 e9 => ?_)
  refine own_acmp_ne X9 hx hby d2_22 (pcY := 38) (pcN := 25) (by decide) rfl rfl rfl (fun (hc10 : ¬ ((.ref a_TRUE) : Value) = (.ref a_TRUE)) => False.elim (by exact hc10 rfl)) (fun (hc10 : ((.ref a_TRUE) : Value) = (.ref a_TRUE)) => ?_)
  refine own_aloadN X9 hx hby d2_25 rfl rfl rfl ?_
  refine own_getstatic X9 hx hby hZ hown (host := "") (Or.inl (hw _ tw_6)) Via.refl e9 ((g_S_TRUE G).ext O) d2_26 rfl (fun T11 X11 e11 => ?_)
  refine own_acmp_ne X11 hx hby d2_29 (pcY := 38) (pcN := 32) (by decide) rfl rfl rfl (fun (hc12 : ¬ ((.ref a_TRUE) : Value) = (.ref a_TRUE)) => False.elim (by exact hc12 rfl)) (fun (hc12 : ((.ref a_TRUE) : Value) = (.ref a_TRUE)) => ?_)
  refine own_getstatic X11 hx hby hZ hown (host := "") (Or.inl (hw _ tw_6)) Via.refl e11 ((g_S_TRUE G).ext O) d2_32 rfl (fun T13 X13 e13 => ?_)
  refine own_goto X13 hx hby d2_35 (pc' := 41) (by decide) ?_
  refine own_ret X13 hx hby hret hlk d2_41 (.ref a_TRUE) rfl (Or.inr (Or.inr ⟨rfl, rfl, rfl⟩)) (by decide) (by decide) ?_
  exact ⟨rfl, rfl, e13⟩
set_option maxRecDepth 65536 in
set_option maxHeartbeats 40000000 in
theorem rm2_TF (l : Launch) (Z : State) (a0 : Array Value) (hw : ∀ d ∈ tables_1, d.before a0 Z = true)  (h0 : Heap) {a_FALSE a_TRUE a_UNKNOWN : Addr} (G : OwnG Z a_FALSE a_TRUE a_UNKNOWN) (O : Ext Z.heap h0) :
    OwnMet l Z (⟨"com/example/latticework/latticework/core/Truth", "and", "(Lcom/example/latticework/latticework/core/Truth;)Lcom/example/latticework/latticework/core/Truth;"⟩ : MethodName) prog_55_method_6_code 2 (some (.object "com/example/latticework/latticework/core/Truth")) [] ({ frames := 0, cells := 0, slots := 0, locals := 0 } : Room) #[(.ref a_TRUE), (.ref a_FALSE)] h0 (fun v h L => v = some (.ref a_FALSE) ∧ L = [] ∧ h = h0) := by
  refine own_body (plainFor_of_name pn_0) (fun m => ef_2_TF m a_FALSE a_TRUE a_UNKNOWN) ?_
  intro p e s m below meth c s₁ X0 hx hby hml hown hnm hret hlk hZ e0
  replace hown : s.vm.findClass "com/example/latticework/latticework/core/Truth" = some m.cls := hown
  replace hml : c.maxLocals = 2 := hml
  show Ends p.tables e below _ (s₁.setTop (mkF m 0 #[.val (.ref a_TRUE), .val (.ref a_FALSE)] []))
  refine own_aloadN X0 hx hby d2_0 rfl rfl rfl ?_
  refine own_getstatic X0 hx hby hZ hown (host := "") (Or.inl (hw _ tw_4)) Via.refl e0 ((g_S_FALSE G).ext O) d2_1 rfl (fun T14 X14 e14 => ?_)
  refine own_acmp_eq X14 hx hby d2_4 (pcY := 14) (pcN := 7) (by decide) rfl rfl rfl (fun (hc15 : ((.ref a_TRUE) : Value) = (.ref a_FALSE)) => False.elim (by exact absurd (Value.ref.inj hc15) ((g_F_TRUE_ordinal G).ne (g_F_FALSE_ordinal G) (by decide)))) (fun (hc15 : ¬ ((.ref a_TRUE) : Value) = (.ref a_FALSE)) => ?_)
  refine own_aloadN X14 hx hby d2_7 rfl rfl rfl ?_
  refine own_getstatic X14 hx hby hZ hown (host := "") (Or.inl (hw _ tw_4)) Via.refl e14 ((g_S_FALSE G).ext O) d2_8 rfl (fun T16 X16 e16 => ?_)
  refine own_acmp_ne X16 hx hby d2_11 (pcY := 18) (pcN := 14) (by decide) rfl rfl rfl (fun (hc17 : ¬ ((.ref a_FALSE) : Value) = (.ref a_FALSE)) => False.elim (by exact hc17 rfl)) (fun (hc17 : ((.ref a_FALSE) : Value) = (.ref a_FALSE)) => ?_)
  refine own_getstatic X16 hx hby hZ hown (host := "") (Or.inl (hw _ tw_4)) Via.refl e16 ((g_S_FALSE G).ext O) d2_14 rfl (fun T18 X18 e18 => ?_)
  refine own_ret X18 hx hby hret hlk d2_17 (.ref a_FALSE) rfl (Or.inr (Or.inr ⟨rfl, rfl, rfl⟩)) (by decide) (by decide) ?_
  exact ⟨rfl, rfl, e18⟩
set_option maxRecDepth 65536 in
set_option maxHeartbeats 40000000 in
theorem rm2_FT (l : Launch) (Z : State) (a0 : Array Value) (hw : ∀ d ∈ tables_1, d.before a0 Z = true)  (h0 : Heap) {a_FALSE a_TRUE a_UNKNOWN : Addr} (G : OwnG Z a_FALSE a_TRUE a_UNKNOWN) (O : Ext Z.heap h0) :
    OwnMet l Z (⟨"com/example/latticework/latticework/core/Truth", "and", "(Lcom/example/latticework/latticework/core/Truth;)Lcom/example/latticework/latticework/core/Truth;"⟩ : MethodName) prog_55_method_6_code 2 (some (.object "com/example/latticework/latticework/core/Truth")) [] ({ frames := 0, cells := 0, slots := 0, locals := 0 } : Room) #[(.ref a_FALSE), (.ref a_TRUE)] h0 (fun v h L => v = some (.ref a_FALSE) ∧ L = [] ∧ h = h0) := by
  refine own_body (plainFor_of_name pn_0) (fun m => ef_2_FT m a_FALSE a_TRUE a_UNKNOWN) ?_
  intro p e s m below meth c s₁ X0 hx hby hml hown hnm hret hlk hZ e0
  replace hown : s.vm.findClass "com/example/latticework/latticework/core/Truth" = some m.cls := hown
  replace hml : c.maxLocals = 2 := hml
  show Ends p.tables e below _ (s₁.setTop (mkF m 0 #[.val (.ref a_FALSE), .val (.ref a_TRUE)] []))
  refine own_aloadN X0 hx hby d2_0 rfl rfl rfl ?_
  refine own_getstatic X0 hx hby hZ hown (host := "") (Or.inl (hw _ tw_4)) Via.refl e0 ((g_S_FALSE G).ext O) d2_1 rfl (fun T19 X19 e19 => ?_)
  refine own_acmp_eq X19 hx hby d2_4 (pcY := 14) (pcN := 7) (by decide) rfl rfl rfl (fun (hc20 : ((.ref a_FALSE) : Value) = (.ref a_FALSE)) => ?_) (fun (hc20 : ¬ ((.ref a_FALSE) : Value) = (.ref a_FALSE)) => False.elim (by exact hc20 rfl))
  refine own_getstatic X19 hx hby hZ hown (host := "") (Or.inl (hw _ tw_4)) Via.refl e19 ((g_S_FALSE G).ext O) d2_14 rfl (fun T21 X21 e21 => ?_)
  refine own_ret X21 hx hby hret hlk d2_17 (.ref a_FALSE) rfl (Or.inr (Or.inr ⟨rfl, rfl, rfl⟩)) (by decide) (by decide) ?_
  exact ⟨rfl, rfl, e21⟩
set_option maxRecDepth 65536 in
set_option maxHeartbeats 40000000 in
theorem rm2_FF (l : Launch) (Z : State) (a0 : Array Value) (hw : ∀ d ∈ tables_1, d.before a0 Z = true)  (h0 : Heap) {a_FALSE a_TRUE a_UNKNOWN : Addr} (G : OwnG Z a_FALSE a_TRUE a_UNKNOWN) (O : Ext Z.heap h0) :
    OwnMet l Z (⟨"com/example/latticework/latticework/core/Truth", "and", "(Lcom/example/latticework/latticework/core/Truth;)Lcom/example/latticework/latticework/core/Truth;"⟩ : MethodName) prog_55_method_6_code 2 (some (.object "com/example/latticework/latticework/core/Truth")) [] ({ frames := 0, cells := 0, slots := 0, locals := 0 } : Room) #[(.ref a_FALSE), (.ref a_FALSE)] h0 (fun v h L => v = some (.ref a_FALSE) ∧ L = [] ∧ h = h0) := by
  refine own_body (plainFor_of_name pn_0) (fun m => ef_2_FF m a_FALSE a_TRUE a_UNKNOWN) ?_
  intro p e s m below meth c s₁ X0 hx hby hml hown hnm hret hlk hZ e0
  replace hown : s.vm.findClass "com/example/latticework/latticework/core/Truth" = some m.cls := hown
  replace hml : c.maxLocals = 2 := hml
  show Ends p.tables e below _ (s₁.setTop (mkF m 0 #[.val (.ref a_FALSE), .val (.ref a_FALSE)] []))
  refine own_aloadN X0 hx hby d2_0 rfl rfl rfl ?_
  refine own_getstatic X0 hx hby hZ hown (host := "") (Or.inl (hw _ tw_4)) Via.refl e0 ((g_S_FALSE G).ext O) d2_1 rfl (fun T22 X22 e22 => ?_)
  refine own_acmp_eq X22 hx hby d2_4 (pcY := 14) (pcN := 7) (by decide) rfl rfl rfl (fun (hc23 : ((.ref a_FALSE) : Value) = (.ref a_FALSE)) => ?_) (fun (hc23 : ¬ ((.ref a_FALSE) : Value) = (.ref a_FALSE)) => False.elim (by exact hc23 rfl))
  refine own_getstatic X22 hx hby hZ hown (host := "") (Or.inl (hw _ tw_4)) Via.refl e22 ((g_S_FALSE G).ext O) d2_14 rfl (fun T24 X24 e24 => ?_)
  refine own_ret X24 hx hby hret hlk d2_17 (.ref a_FALSE) rfl (Or.inr (Or.inr ⟨rfl, rfl, rfl⟩)) (by decide) (by decide) ?_
  exact ⟨rfl, rfl, e24⟩
set_option maxRecDepth 65536 in
set_option maxHeartbeats 40000000 in
theorem rm5_T (l : Launch) (Z : State) (a0 : Array Value) (hw : ∀ d ∈ tables_1, d.before a0 Z = true)  (h0 : Heap) {a_FALSE a_TRUE a_UNKNOWN : Addr} (G : OwnG Z a_FALSE a_TRUE a_UNKNOWN) (O : Ext Z.heap h0) :
    OwnMet l Z (⟨"java/lang/Enum", "ordinal", "()I"⟩ : MethodName) jdk_37_method_2_code 1 (some .int) [] ({ frames := 0, cells := 0, slots := 0, locals := 0 } : Room) #[(.ref a_TRUE)] h0 (fun v h L => v = some (.int (0 : Int32)) ∧ L = [] ∧ h = h0) := by
  refine own_body (plainFor_of_name pn_1) (fun m => ef_5_T m a_FALSE a_TRUE a_UNKNOWN) ?_
  intro p e s m below meth c s₁ X0 hx hby hml hown hnm hret hlk hZ e0
  replace hown : s.vm.findClass "java/lang/Enum" = some m.cls := hown
  replace hml : c.maxLocals = 1 := hml
  show Ends p.tables e below _ (s₁.setTop (mkF m 0 #[.val (.ref a_TRUE)] []))
  refine own_aloadN X0 hx hby d5_0 rfl rfl rfl ?_
  refine own_getfield X0 hx hby hZ hown (host := "") (Or.inl (hw _ tw_34)) Via.refl e0 ((g_F_TRUE_ordinal G).ext O) d5_1 rfl (fun T25 X25 e25 => ?_)
  refine own_ret X25 hx hby hret hlk d5_4 (.int (0 : Int32)) rfl (Or.inl ⟨rfl, by simp, _, rfl⟩) (by decide) (by decide) ?_
  exact ⟨rfl, rfl, e25⟩
set_option maxRecDepth 65536 in
set_option maxHeartbeats 40000000 in
theorem rm5_F (l : Launch) (Z : State) (a0 : Array Value) (hw : ∀ d ∈ tables_1, d.before a0 Z = true)  (h0 : Heap) {a_FALSE a_TRUE a_UNKNOWN : Addr} (G : OwnG Z a_FALSE a_TRUE a_UNKNOWN) (O : Ext Z.heap h0) :
    OwnMet l Z (⟨"java/lang/Enum", "ordinal", "()I"⟩ : MethodName) jdk_37_method_2_code 1 (some .int) [] ({ frames := 0, cells := 0, slots := 0, locals := 0 } : Room) #[(.ref a_FALSE)] h0 (fun v h L => v = some (.int (1 : Int32)) ∧ L = [] ∧ h = h0) := by
  refine own_body (plainFor_of_name pn_1) (fun m => ef_5_F m a_FALSE a_TRUE a_UNKNOWN) ?_
  intro p e s m below meth c s₁ X0 hx hby hml hown hnm hret hlk hZ e0
  replace hown : s.vm.findClass "java/lang/Enum" = some m.cls := hown
  replace hml : c.maxLocals = 1 := hml
  show Ends p.tables e below _ (s₁.setTop (mkF m 0 #[.val (.ref a_FALSE)] []))
  refine own_aloadN X0 hx hby d5_0 rfl rfl rfl ?_
  refine own_getfield X0 hx hby hZ hown (host := "") (Or.inl (hw _ tw_34)) Via.refl e0 ((g_F_FALSE_ordinal G).ext O) d5_1 rfl (fun T26 X26 e26 => ?_)
  refine own_ret X26 hx hby hret hlk d5_4 (.int (1 : Int32)) rfl (Or.inl ⟨rfl, by simp, _, rfl⟩) (by decide) (by decide) ?_
  exact ⟨rfl, rfl, e26⟩
set_option maxRecDepth 65536 in
set_option maxHeartbeats 40000000 in
theorem rm4_T (l : Launch) (Z : State) (a0 : Array Value) (hw : ∀ d ∈ tables_1, d.before a0 Z = true)  (h0 : Heap) {a_FALSE a_TRUE a_UNKNOWN : Addr} (G : OwnG Z a_FALSE a_TRUE a_UNKNOWN) (O : Ext Z.heap h0) :
    OwnMet l Z (⟨"com/example/latticework/latticework/core/Truth", "not", "()Lcom/example/latticework/latticework/core/Truth;"⟩ : MethodName) prog_55_method_5_code 1 (some (.object "com/example/latticework/latticework/core/Truth")) [] ({ frames := 1, cells := 0, slots := 0, locals := 12 } : Room) #[(.ref a_TRUE)] h0 (fun v h L => v = some (.ref a_FALSE) ∧ L = [] ∧ h = h0) := by
  refine own_body (plainFor_of_name pn_0) (fun m => ef_4_T m a_FALSE a_TRUE a_UNKNOWN) ?_
  intro p e s m below meth c s₁ X0 hx hby hml hown hnm hret hlk hZ e0
  replace hown : s.vm.findClass "com/example/latticework/latticework/core/Truth" = some m.cls := hown
  replace hml : c.maxLocals = 1 := hml
  show Ends p.tables e below _ (s₁.setTop (mkF m 0 #[.val (.ref a_TRUE)] []))
  refine own_aloadN X0 hx hby d4_0 rfl rfl rfl ?_
  refine own_virtualUp X0 hx hby hZ (Cn := "com/example/latticework/latticework/core/Truth") (a := a_TRUE) (argsL := []) (rest := []) hown (hw _ tw_27) (hw _ tw_28) (hw _ tw_29) (hw _ tw_31) (hw _ tw_30) (hw _ tw_32) (hw _ tw_33) (by decide) (rm5_T l Z a0 hw h0 G O) ((g_E_TRUE G).ext O) e0 (by rw [hml]; rfl) pd_0 rfl (by decide) (W := 0) (Nat.le_refl _) (by decide) (by decide) (by decide) d4_1 rfl rfl (fun v27 T27 L27 X27 hQ27 => ?_)
  obtain ⟨rfl, rfl, e27⟩ := hQ27
  show Ends p.tables e below _ (T27.setTop (mkF m 4 #[.val (.ref a_TRUE)] [(.int (0 : Int32))]))
  refine own_tsw X27 hx hby 38 d4_4 (by decide) rfl (pc' := 42) (by decide) ?_
  refine own_getstatic X27 hx hby hZ hown (host := "") (Or.inl (hw _ tw_4)) Via.refl e27 ((g_S_FALSE G).ext O) d4_42 rfl (fun T28 X28 e28 => ?_)
  refine own_goto X28 hx hby d4_45 (pc' := 57) (by decide) ?_
  refine own_ret X28 hx hby hret hlk d4_57 (.ref a_FALSE) rfl (Or.inr (Or.inr ⟨rfl, rfl, rfl⟩)) (by decide) (by decide) ?_
  exact ⟨rfl, rfl, e28⟩
set_option maxRecDepth 65536 in
set_option maxHeartbeats 40000000 in
theorem rm4_F (l : Launch) (Z : State) (a0 : Array Value) (hw : ∀ d ∈ tables_1, d.before a0 Z = true)  (h0 : Heap) {a_FALSE a_TRUE a_UNKNOWN : Addr} (G : OwnG Z a_FALSE a_TRUE a_UNKNOWN) (O : Ext Z.heap h0) :
    OwnMet l Z (⟨"com/example/latticework/latticework/core/Truth", "not", "()Lcom/example/latticework/latticework/core/Truth;"⟩ : MethodName) prog_55_method_5_code 1 (some (.object "com/example/latticework/latticework/core/Truth")) [] ({ frames := 1, cells := 0, slots := 0, locals := 12 } : Room) #[(.ref a_FALSE)] h0 (fun v h L => v = some (.ref a_TRUE) ∧ L = [] ∧ h = h0) := by
  refine own_body (plainFor_of_name pn_0) (fun m => ef_4_F m a_FALSE a_TRUE a_UNKNOWN) ?_
  intro p e s m below meth c s₁ X0 hx hby hml hown hnm hret hlk hZ e0
  replace hown : s.vm.findClass "com/example/latticework/latticework/core/Truth" = some m.cls := hown
  replace hml : c.maxLocals = 1 := hml
  show Ends p.tables e below _ (s₁.setTop (mkF m 0 #[.val (.ref a_FALSE)] []))
  refine own_aloadN X0 hx hby d4_0 rfl rfl rfl ?_
  refine own_virtualUp X0 hx hby hZ (Cn := "com/example/latticework/latticework/core/Truth") (a := a_FALSE) (argsL := []) (rest := []) hown (hw _ tw_27) (hw _ tw_28) (hw _ tw_29) (hw _ tw_31) (hw _ tw_30) (hw _ tw_32) (hw _ tw_33) (by decide) (rm5_F l Z a0 hw h0 G O) ((g_E_FALSE G).ext O) e0 (by rw [hml]; rfl) pd_0 rfl (by decide) (W := 0) (Nat.le_refl _) (by decide) (by decide) (by decide) d4_1 rfl rfl (fun v29 T29 L29 X29 hQ29 => ?_)
  obtain ⟨rfl, rfl, e29⟩ := hQ29
  show Ends p.tables e below _ (T29.setTop (mkF m 4 #[.val (.ref a_FALSE)] [(.int (1 : Int32))]))
  refine own_tsw X29 hx hby 44 d4_4 (by decide) rfl (pc' := 48) (by decide) ?_
  refine own_getstatic X29 hx hby hZ hown (host := "") (Or.inl (hw _ tw_6)) Via.refl e29 ((g_S_TRUE G).ext O) d4_48 rfl (fun T30 X30 e30 => ?_)
  refine own_goto X30 hx hby d4_51 (pc' := 57) (by decide) ?_
  refine own_ret X30 hx hby hret hlk d4_57 (.ref a_TRUE) rfl (Or.inr (Or.inr ⟨rfl, rfl, rfl⟩)) (by decide) (by decide) ?_
  exact ⟨rfl, rfl, e30⟩
set_option maxRecDepth 65536 in
set_option maxHeartbeats 40000000 in
theorem rm3_TT (l : Launch) (Z : State) (a0 : Array Value) (hw : ∀ d ∈ tables_1, d.before a0 Z = true)  (h0 : Heap) {a_FALSE a_TRUE a_UNKNOWN : Addr} (G : OwnG Z a_FALSE a_TRUE a_UNKNOWN) (O : Ext Z.heap h0) :
    OwnMet l Z (⟨"com/example/latticework/latticework/core/Truth", "or", "(Lcom/example/latticework/latticework/core/Truth;)Lcom/example/latticework/latticework/core/Truth;"⟩ : MethodName) prog_55_method_7_code 2 (some (.object "com/example/latticework/latticework/core/Truth")) [] ({ frames := 2, cells := 0, slots := 0, locals := 25 } : Room) #[(.ref a_TRUE), (.ref a_TRUE)] h0 (fun v h L => v = some (.ref a_TRUE) ∧ L = [] ∧ h = h0) := by
  refine own_body (plainFor_of_name pn_0) (fun m => ef_3_TT m a_FALSE a_TRUE a_UNKNOWN) ?_
  intro p e s m below meth c s₁ X0 hx hby hml hown hnm hret hlk hZ e0
  replace hown : s.vm.findClass "com/example/latticework/latticework/core/Truth" = some m.cls := hown
  replace hml : c.maxLocals = 2 := hml
  show Ends p.tables e below _ (s₁.setTop (mkF m 0 #[.val (.ref a_TRUE), .val (.ref a_TRUE)] []))
  refine own_aloadN X0 hx hby d3_0 rfl rfl rfl ?_
  refine own_virtual X0 hx hby hZ (Cn := "com/example/latticework/latticework/core/Truth") (a := a_TRUE) (argsL := []) (rest := []) hown (hw _ tw_22) (hw _ tw_23) (hw _ tw_25) (hw _ tw_24) (hw _ tw_2) (hw _ tw_26) (by decide) (rm4_T l Z a0 hw h0 G O) ((g_E_TRUE G).ext O) e0 (by rw [hml]; rfl) pd_1 rfl (by decide) (W := 0) (Nat.le_refl _) (by decide) (by decide) (by decide) d3_1 rfl rfl (fun v31 T31 L31 X31 hQ31 => ?_)
  obtain ⟨rfl, rfl, e31⟩ := hQ31
  show Ends p.tables e below _ (T31.setTop (mkF m 4 #[.val (.ref a_TRUE), .val (.ref a_TRUE)] [(.ref a_FALSE)]))
  refine own_aloadN X31 hx hby d3_4 rfl rfl rfl ?_
  refine own_virtual X31 hx hby hZ (Cn := "com/example/latticework/latticework/core/Truth") (a := a_TRUE) (argsL := []) (rest := [(.ref a_FALSE)]) hown (hw _ tw_22) (hw _ tw_23) (hw _ tw_25) (hw _ tw_24) (hw _ tw_2) (hw _ tw_26) (by decide) (rm4_T l Z a0 hw h0 G O) ((g_E_TRUE G).ext O) e31 (by rw [hml]; rfl) pd_1 rfl (by decide) (W := 1) (Nat.le_refl _) (by decide) (by decide) (by decide) d3_5 rfl rfl (fun v32 T32 L32 X32 hQ32 => ?_)
  obtain ⟨rfl, rfl, e32⟩ := hQ32
  show Ends p.tables e below _ (T32.setTop (mkF m 8 #[.val (.ref a_TRUE), .val (.ref a_TRUE)] [(.ref a_FALSE), (.ref a_FALSE)]))
  refine own_virtual X32 hx hby hZ (Cn := "com/example/latticework/latticework/core/Truth") (a := a_FALSE) (argsL := [(.ref a_FALSE)]) (rest := []) hown (hw _ tw_36) (hw _ tw_13) (hw _ tw_15) (hw _ tw_14) (hw _ tw_2) (hw _ tw_16) (by decide) (rm2_FF l Z a0 hw h0 G O) ((g_E_FALSE G).ext O) e32 (by rw [hml]; rfl) pd_2 rfl (by decide) (W := 0) (Nat.le_refl _) (by decide) (by decide) (by decide) d3_8 rfl rfl (fun v33 T33 L33 X33 hQ33 => ?_)
  obtain ⟨rfl, rfl, e33⟩ := hQ33
  show Ends p.tables e below _ (T33.setTop (mkF m 11 #[.val (.ref a_TRUE), .val (.ref a_TRUE)] [(.ref a_FALSE)]))
  refine own_virtual X33 hx hby hZ (Cn := "com/example/latticework/latticework/core/Truth") (a := a_FALSE) (argsL := []) (rest := []) hown (hw _ tw_22) (hw _ tw_23) (hw _ tw_25) (hw _ tw_24) (hw _ tw_2) (hw _ tw_26) (by decide) (rm4_F l Z a0 hw h0 G O) ((g_E_FALSE G).ext O) e33 (by rw [hml]; rfl) pd_1 rfl (by decide) (W := 0) (Nat.le_refl _) (by decide) (by decide) (by decide) d3_11 rfl rfl (fun v34 T34 L34 X34 hQ34 => ?_)
  obtain ⟨rfl, rfl, e34⟩ := hQ34
  show Ends p.tables e below _ (T34.setTop (mkF m 14 #[.val (.ref a_TRUE), .val (.ref a_TRUE)] [(.ref a_TRUE)]))
  refine own_ret X34 hx hby hret hlk d3_14 (.ref a_TRUE) rfl (Or.inr (Or.inr ⟨rfl, rfl, rfl⟩)) (by decide) (by decide) ?_
  exact ⟨rfl, rfl, e34⟩
set_option maxRecDepth 65536 in
set_option maxHeartbeats 40000000 in
theorem rm3_TF (l : Launch) (Z : State) (a0 : Array Value) (hw : ∀ d ∈ tables_1, d.before a0 Z = true)  (h0 : Heap) {a_FALSE a_TRUE a_UNKNOWN : Addr} (G : OwnG Z a_FALSE a_TRUE a_UNKNOWN) (O : Ext Z.heap h0) :
    OwnMet l Z (⟨"com/example/latticework/latticework/core/Truth", "or", "(Lcom/example/latticework/latticework/core/Truth;)Lcom/example/latticework/latticework/core/Truth;"⟩ : MethodName) prog_55_method_7_code 2 (some (.object "com/example/latticework/latticework/core/Truth")) [] ({ frames := 2, cells := 0, slots := 0, locals := 25 } : Room) #[(.ref a_TRUE), (.ref a_FALSE)] h0 (fun v h L => v = some (.ref a_TRUE) ∧ L = [] ∧ h = h0) := by
  refine own_body (plainFor_of_name pn_0) (fun m => ef_3_TF m a_FALSE a_TRUE a_UNKNOWN) ?_
  intro p e s m below meth c s₁ X0 hx hby hml hown hnm hret hlk hZ e0
  replace hown : s.vm.findClass "com/example/latticework/latticework/core/Truth" = some m.cls := hown
  replace hml : c.maxLocals = 2 := hml
  show Ends p.tables e below _ (s₁.setTop (mkF m 0 #[.val (.ref a_TRUE), .val (.ref a_FALSE)] []))
  refine own_aloadN X0 hx hby d3_0 rfl rfl rfl ?_
  refine own_virtual X0 hx hby hZ (Cn := "com/example/latticework/latticework/core/Truth") (a := a_TRUE) (argsL := []) (rest := []) hown (hw _ tw_22) (hw _ tw_23) (hw _ tw_25) (hw _ tw_24) (hw _ tw_2) (hw _ tw_26) (by decide) (rm4_T l Z a0 hw h0 G O) ((g_E_TRUE G).ext O) e0 (by rw [hml]; rfl) pd_1 rfl (by decide) (W := 0) (Nat.le_refl _) (by decide) (by decide) (by decide) d3_1 rfl rfl (fun v35 T35 L35 X35 hQ35 => ?_)
  obtain ⟨rfl, rfl, e35⟩ := hQ35
  show Ends p.tables e below _ (T35.setTop (mkF m 4 #[.val (.ref a_TRUE), .val (.ref a_FALSE)] [(.ref a_FALSE)]))
  refine own_aloadN X35 hx hby d3_4 rfl rfl rfl ?_
  refine own_virtual X35 hx hby hZ (Cn := "com/example/latticework/latticework/core/Truth") (a := a_FALSE) (argsL := []) (rest := [(.ref a_FALSE)]) hown (hw _ tw_22) (hw _ tw_23) (hw _ tw_25) (hw _ tw_24) (hw _ tw_2) (hw _ tw_26) (by decide) (rm4_F l Z a0 hw h0 G O) ((g_E_FALSE G).ext O) e35 (by rw [hml]; rfl) pd_1 rfl (by decide) (W := 1) (Nat.le_refl _) (by decide) (by decide) (by decide) d3_5 rfl rfl (fun v36 T36 L36 X36 hQ36 => ?_)
  obtain ⟨rfl, rfl, e36⟩ := hQ36
  show Ends p.tables e below _ (T36.setTop (mkF m 8 #[.val (.ref a_TRUE), .val (.ref a_FALSE)] [(.ref a_TRUE), (.ref a_FALSE)]))
  refine own_virtual X36 hx hby hZ (Cn := "com/example/latticework/latticework/core/Truth") (a := a_FALSE) (argsL := [(.ref a_TRUE)]) (rest := []) hown (hw _ tw_36) (hw _ tw_13) (hw _ tw_15) (hw _ tw_14) (hw _ tw_2) (hw _ tw_16) (by decide) (rm2_FT l Z a0 hw h0 G O) ((g_E_FALSE G).ext O) e36 (by rw [hml]; rfl) pd_2 rfl (by decide) (W := 0) (Nat.le_refl _) (by decide) (by decide) (by decide) d3_8 rfl rfl (fun v37 T37 L37 X37 hQ37 => ?_)
  obtain ⟨rfl, rfl, e37⟩ := hQ37
  show Ends p.tables e below _ (T37.setTop (mkF m 11 #[.val (.ref a_TRUE), .val (.ref a_FALSE)] [(.ref a_FALSE)]))
  refine own_virtual X37 hx hby hZ (Cn := "com/example/latticework/latticework/core/Truth") (a := a_FALSE) (argsL := []) (rest := []) hown (hw _ tw_22) (hw _ tw_23) (hw _ tw_25) (hw _ tw_24) (hw _ tw_2) (hw _ tw_26) (by decide) (rm4_F l Z a0 hw h0 G O) ((g_E_FALSE G).ext O) e37 (by rw [hml]; rfl) pd_1 rfl (by decide) (W := 0) (Nat.le_refl _) (by decide) (by decide) (by decide) d3_11 rfl rfl (fun v38 T38 L38 X38 hQ38 => ?_)
  obtain ⟨rfl, rfl, e38⟩ := hQ38
  show Ends p.tables e below _ (T38.setTop (mkF m 14 #[.val (.ref a_TRUE), .val (.ref a_FALSE)] [(.ref a_TRUE)]))
  refine own_ret X38 hx hby hret hlk d3_14 (.ref a_TRUE) rfl (Or.inr (Or.inr ⟨rfl, rfl, rfl⟩)) (by decide) (by decide) ?_
  exact ⟨rfl, rfl, e38⟩
set_option maxRecDepth 65536 in
set_option maxHeartbeats 40000000 in
theorem rm3_FT (l : Launch) (Z : State) (a0 : Array Value) (hw : ∀ d ∈ tables_1, d.before a0 Z = true)  (h0 : Heap) {a_FALSE a_TRUE a_UNKNOWN : Addr} (G : OwnG Z a_FALSE a_TRUE a_UNKNOWN) (O : Ext Z.heap h0) :
    OwnMet l Z (⟨"com/example/latticework/latticework/core/Truth", "or", "(Lcom/example/latticework/latticework/core/Truth;)Lcom/example/latticework/latticework/core/Truth;"⟩ : MethodName) prog_55_method_7_code 2 (some (.object "com/example/latticework/latticework/core/Truth")) [] ({ frames := 2, cells := 0, slots := 0, locals := 25 } : Room) #[(.ref a_FALSE), (.ref a_TRUE)] h0 (fun v h L => v = some (.ref a_TRUE) ∧ L = [] ∧ h = h0) := by
  refine own_body (plainFor_of_name pn_0) (fun m => ef_3_FT m a_FALSE a_TRUE a_UNKNOWN) ?_
  intro p e s m below meth c s₁ X0 hx hby hml hown hnm hret hlk hZ e0
  replace hown : s.vm.findClass "com/example/latticework/latticework/core/Truth" = some m.cls := hown
  replace hml : c.maxLocals = 2 := hml
  show Ends p.tables e below _ (s₁.setTop (mkF m 0 #[.val (.ref a_FALSE), .val (.ref a_TRUE)] []))
  refine own_aloadN X0 hx hby d3_0 rfl rfl rfl ?_
  refine own_virtual X0 hx hby hZ (Cn := "com/example/latticework/latticework/core/Truth") (a := a_FALSE) (argsL := []) (rest := []) hown (hw _ tw_22) (hw _ tw_23) (hw _ tw_25) (hw _ tw_24) (hw _ tw_2) (hw _ tw_26) (by decide) (rm4_F l Z a0 hw h0 G O) ((g_E_FALSE G).ext O) e0 (by rw [hml]; rfl) pd_1 rfl (by decide) (W := 0) (Nat.le_refl _) (by decide) (by decide) (by decide) d3_1 rfl rfl (fun v39 T39 L39 X39 hQ39 => ?_)
  obtain ⟨rfl, rfl, e39⟩ := hQ39
  show Ends p.tables e below _ (T39.setTop (mkF m 4 #[.val (.ref a_FALSE), .val (.ref a_TRUE)] [(.ref a_TRUE)]))
  refine own_aloadN X39 hx hby d3_4 rfl rfl rfl ?_
  refine own_virtual X39 hx hby hZ (Cn := "com/example/latticework/latticework/core/Truth") (a := a_TRUE) (argsL := []) (rest := [(.ref a_TRUE)]) hown (hw _ tw_22) (hw _ tw_23) (hw _ tw_25) (hw _ tw_24) (hw _ tw_2) (hw _ tw_26) (by decide) (rm4_T l Z a0 hw h0 G O) ((g_E_TRUE G).ext O) e39 (by rw [hml]; rfl) pd_1 rfl (by decide) (W := 1) (Nat.le_refl _) (by decide) (by decide) (by decide) d3_5 rfl rfl (fun v40 T40 L40 X40 hQ40 => ?_)
  obtain ⟨rfl, rfl, e40⟩ := hQ40
  show Ends p.tables e below _ (T40.setTop (mkF m 8 #[.val (.ref a_FALSE), .val (.ref a_TRUE)] [(.ref a_FALSE), (.ref a_TRUE)]))
  refine own_virtual X40 hx hby hZ (Cn := "com/example/latticework/latticework/core/Truth") (a := a_TRUE) (argsL := [(.ref a_FALSE)]) (rest := []) hown (hw _ tw_36) (hw _ tw_13) (hw _ tw_15) (hw _ tw_14) (hw _ tw_2) (hw _ tw_16) (by decide) (rm2_TF l Z a0 hw h0 G O) ((g_E_TRUE G).ext O) e40 (by rw [hml]; rfl) pd_2 rfl (by decide) (W := 0) (Nat.le_refl _) (by decide) (by decide) (by decide) d3_8 rfl rfl (fun v41 T41 L41 X41 hQ41 => ?_)
  obtain ⟨rfl, rfl, e41⟩ := hQ41
  show Ends p.tables e below _ (T41.setTop (mkF m 11 #[.val (.ref a_FALSE), .val (.ref a_TRUE)] [(.ref a_FALSE)]))
  refine own_virtual X41 hx hby hZ (Cn := "com/example/latticework/latticework/core/Truth") (a := a_FALSE) (argsL := []) (rest := []) hown (hw _ tw_22) (hw _ tw_23) (hw _ tw_25) (hw _ tw_24) (hw _ tw_2) (hw _ tw_26) (by decide) (rm4_F l Z a0 hw h0 G O) ((g_E_FALSE G).ext O) e41 (by rw [hml]; rfl) pd_1 rfl (by decide) (W := 0) (Nat.le_refl _) (by decide) (by decide) (by decide) d3_11 rfl rfl (fun v42 T42 L42 X42 hQ42 => ?_)
  obtain ⟨rfl, rfl, e42⟩ := hQ42
  show Ends p.tables e below _ (T42.setTop (mkF m 14 #[.val (.ref a_FALSE), .val (.ref a_TRUE)] [(.ref a_TRUE)]))
  refine own_ret X42 hx hby hret hlk d3_14 (.ref a_TRUE) rfl (Or.inr (Or.inr ⟨rfl, rfl, rfl⟩)) (by decide) (by decide) ?_
  exact ⟨rfl, rfl, e42⟩
set_option maxRecDepth 65536 in
set_option maxHeartbeats 40000000 in
theorem rm3_FF (l : Launch) (Z : State) (a0 : Array Value) (hw : ∀ d ∈ tables_1, d.before a0 Z = true)  (h0 : Heap) {a_FALSE a_TRUE a_UNKNOWN : Addr} (G : OwnG Z a_FALSE a_TRUE a_UNKNOWN) (O : Ext Z.heap h0) :
    OwnMet l Z (⟨"com/example/latticework/latticework/core/Truth", "or", "(Lcom/example/latticework/latticework/core/Truth;)Lcom/example/latticework/latticework/core/Truth;"⟩ : MethodName) prog_55_method_7_code 2 (some (.object "com/example/latticework/latticework/core/Truth")) [] ({ frames := 2, cells := 0, slots := 0, locals := 25 } : Room) #[(.ref a_FALSE), (.ref a_FALSE)] h0 (fun v h L => v = some (.ref a_FALSE) ∧ L = [] ∧ h = h0) := by
  refine own_body (plainFor_of_name pn_0) (fun m => ef_3_FF m a_FALSE a_TRUE a_UNKNOWN) ?_
  intro p e s m below meth c s₁ X0 hx hby hml hown hnm hret hlk hZ e0
  replace hown : s.vm.findClass "com/example/latticework/latticework/core/Truth" = some m.cls := hown
  replace hml : c.maxLocals = 2 := hml
  show Ends p.tables e below _ (s₁.setTop (mkF m 0 #[.val (.ref a_FALSE), .val (.ref a_FALSE)] []))
  refine own_aloadN X0 hx hby d3_0 rfl rfl rfl ?_
  refine own_virtual X0 hx hby hZ (Cn := "com/example/latticework/latticework/core/Truth") (a := a_FALSE) (argsL := []) (rest := []) hown (hw _ tw_22) (hw _ tw_23) (hw _ tw_25) (hw _ tw_24) (hw _ tw_2) (hw _ tw_26) (by decide) (rm4_F l Z a0 hw h0 G O) ((g_E_FALSE G).ext O) e0 (by rw [hml]; rfl) pd_1 rfl (by decide) (W := 0) (Nat.le_refl _) (by decide) (by decide) (by decide) d3_1 rfl rfl (fun v43 T43 L43 X43 hQ43 => ?_)
  obtain ⟨rfl, rfl, e43⟩ := hQ43
  show Ends p.tables e below _ (T43.setTop (mkF m 4 #[.val (.ref a_FALSE), .val (.ref a_FALSE)] [(.ref a_TRUE)]))
  refine own_aloadN X43 hx hby d3_4 rfl rfl rfl ?_
  refine own_virtual X43 hx hby hZ (Cn := "com/example/latticework/latticework/core/Truth") (a := a_FALSE) (argsL := []) (rest := [(.ref a_TRUE)]) hown (hw _ tw_22) (hw _ tw_23) (hw _ tw_25) (hw _ tw_24) (hw _ tw_2) (hw _ tw_26) (by decide) (rm4_F l Z a0 hw h0 G O) ((g_E_FALSE G).ext O) e43 (by rw [hml]; rfl) pd_1 rfl (by decide) (W := 1) (Nat.le_refl _) (by decide) (by decide) (by decide) d3_5 rfl rfl (fun v44 T44 L44 X44 hQ44 => ?_)
  obtain ⟨rfl, rfl, e44⟩ := hQ44
  show Ends p.tables e below _ (T44.setTop (mkF m 8 #[.val (.ref a_FALSE), .val (.ref a_FALSE)] [(.ref a_TRUE), (.ref a_TRUE)]))
  refine own_virtual X44 hx hby hZ (Cn := "com/example/latticework/latticework/core/Truth") (a := a_TRUE) (argsL := [(.ref a_TRUE)]) (rest := []) hown (hw _ tw_36) (hw _ tw_13) (hw _ tw_15) (hw _ tw_14) (hw _ tw_2) (hw _ tw_16) (by decide) (rm2_TT l Z a0 hw h0 G O) ((g_E_TRUE G).ext O) e44 (by rw [hml]; rfl) pd_2 rfl (by decide) (W := 0) (Nat.le_refl _) (by decide) (by decide) (by decide) d3_8 rfl rfl (fun v45 T45 L45 X45 hQ45 => ?_)
  obtain ⟨rfl, rfl, e45⟩ := hQ45
  show Ends p.tables e below _ (T45.setTop (mkF m 11 #[.val (.ref a_FALSE), .val (.ref a_FALSE)] [(.ref a_TRUE)]))
  refine own_virtual X45 hx hby hZ (Cn := "com/example/latticework/latticework/core/Truth") (a := a_TRUE) (argsL := []) (rest := []) hown (hw _ tw_22) (hw _ tw_23) (hw _ tw_25) (hw _ tw_24) (hw _ tw_2) (hw _ tw_26) (by decide) (rm4_T l Z a0 hw h0 G O) ((g_E_TRUE G).ext O) e45 (by rw [hml]; rfl) pd_1 rfl (by decide) (W := 0) (Nat.le_refl _) (by decide) (by decide) (by decide) d3_11 rfl rfl (fun v46 T46 L46 X46 hQ46 => ?_)
  obtain ⟨rfl, rfl, e46⟩ := hQ46
  show Ends p.tables e below _ (T46.setTop (mkF m 14 #[.val (.ref a_FALSE), .val (.ref a_FALSE)] [(.ref a_FALSE)]))
  refine own_ret X46 hx hby hret hlk d3_14 (.ref a_FALSE) rfl (Or.inr (Or.inr ⟨rfl, rfl, rfl⟩)) (by decide) (by decide) ?_
  exact ⟨rfl, rfl, e46⟩
set_option maxRecDepth 65536 in
set_option maxHeartbeats 40000000 in
theorem rm0 (l : Launch) (Z : State) (a0 : Array Value) (hw : ∀ d ∈ tables_1, d.before a0 Z = true) (x0 : Int32) (x1 : Int32) (h0 : Heap) (n0 : Nat) {a_FALSE a_TRUE a_UNKNOWN : Addr} (G : OwnG Z a_FALSE a_TRUE a_UNKNOWN) (O : Ext Z.heap h0) :
    OwnMet l Z x code maxLocals ret tables_1 room_1 #[(.int x0), (.int x1)] h0 (fun v h L => v = some (.int 1) ∧ Fr n0 L) := by
  refine own_body (plainFor_of_name pn_2) (fun m => ef_0 m x0 x1) ?_
  intro p e s m below meth c s₁ X0 hx hby hml hown hnm hret hlk hZ e0
  replace hown : s.vm.findClass "com/example/latticework/latticework/core/TruthOfPinLaw" = some m.cls := hown
  replace hml : c.maxLocals = 12 := hml
  have N0 := Fr.nil n0
  show Ends p.tables e below _ (s₁.setTop (mkF m 0 #[.val (.int x0), .val (.int x1), .unset, .unset, .unset, .unset, .unset, .unset, .unset, .unset, .unset, .unset] []))
  refine own_iloadN X0 hx hby at_0 rfl rfl ?_
  refine own_iconst X0 hx hby at_1 rfl (1 : Int32) rfl ?_
  refine own_iand X0 hx hby at_2 rfl ?_
  refine own_if_eq X0 hx hby at_3 (pcY := 10) (pcN := 6) (by decide) rfl (fun (hc47 : (x0 &&& (1 : Int32)) = (0 : Int32)) => ?_) (fun (hc47 : ¬ (x0 &&& (1 : Int32)) = (0 : Int32)) => ?_)
  · -- pc 3: t
    refine own_iconst X0 hx hby at_10 rfl (0 : Int32) rfl ?_
    refine own_istoreN X0 hx hby at_11 rfl #[.val (.int x0), .val (.int x1), .val (.int (0 : Int32)), .unset, .unset, .unset, .unset, .unset, .unset, .unset, .unset, .unset] rfl ?_
    refine own_iloadN X0 hx hby at_12 rfl rfl ?_
    refine own_iconst X0 hx hby at_13 rfl (1 : Int32) rfl ?_
    refine own_iand X0 hx hby at_14 rfl ?_
    refine own_if_eq X0 hx hby at_15 (pcY := 22) (pcN := 18) (by decide) rfl (fun (hc48 : (x1 &&& (1 : Int32)) = (0 : Int32)) => ?_) (fun (hc48 : ¬ (x1 &&& (1 : Int32)) = (0 : Int32)) => ?_)
    · -- pc 15: t
      refine own_iconst X0 hx hby at_22 rfl (0 : Int32) rfl ?_
      refine own_istoreN X0 hx hby at_23 rfl #[.val (.int x0), .val (.int x1), .val (.int (0 : Int32)), .val (.int (0 : Int32)), .unset, .unset, .unset, .unset, .unset, .unset, .unset, .unset] rfl ?_
      refine own_iloadN X0 hx hby at_24 rfl rfl ?_
      refine own_static X0 hx hby hZ (argsL := [(.int (0 : Int32))]) (rest := []) hown (hw _ tw_0) (hw _ tw_1) (hw _ tw_2) (hw _ tw_3) (by decide) (rm1_0 l Z a0 hw h0 G O) e0 (by rw [hml]; rfl) pd_3 rfl (by decide) (W := 0) (Nat.le_refl _) (by decide) (by decide) (by decide) at_25 rfl rfl (fun v49 T49 L49 X49 hQ49 => ?_)
      obtain ⟨rfl, rfl, e49⟩ := hQ49
      show Ends p.tables e below _ (T49.setTop (mkF m 28 #[.val (.int x0), .val (.int x1), .val (.int (0 : Int32)), .val (.int (0 : Int32)), .unset, .unset, .unset, .unset, .unset, .unset, .unset, .unset] [(.ref a_FALSE)]))
      refine own_astore X49 hx hby at_28 rfl #[.val (.int x0), .val (.int x1), .val (.int (0 : Int32)), .val (.int (0 : Int32)), .val (.ref a_FALSE), .unset, .unset, .unset, .unset, .unset, .unset, .unset] rfl rfl ?_
      refine own_iloadN X49 hx hby at_30 rfl rfl ?_
      refine own_static X49 hx hby hZ (argsL := [(.int (0 : Int32))]) (rest := []) hown (hw _ tw_0) (hw _ tw_1) (hw _ tw_2) (hw _ tw_3) (by decide) (rm1_0 l Z a0 hw h0 G O) e49 (by rw [hml]; rfl) pd_3 rfl (by decide) (W := 0) (Nat.le_refl _) (by decide) (by decide) (by decide) at_31 rfl rfl (fun v50 T50 L50 X50 hQ50 => ?_)
      obtain ⟨rfl, rfl, e50⟩ := hQ50
      show Ends p.tables e below _ (T50.setTop (mkF m 34 #[.val (.int x0), .val (.int x1), .val (.int (0 : Int32)), .val (.int (0 : Int32)), .val (.ref a_FALSE), .unset, .unset, .unset, .unset, .unset, .unset, .unset] [(.ref a_FALSE)]))
      refine own_astore X50 hx hby at_34 rfl #[.val (.int x0), .val (.int x1), .val (.int (0 : Int32)), .val (.int (0 : Int32)), .val (.ref a_FALSE), .val (.ref a_FALSE), .unset, .unset, .unset, .unset, .unset, .unset] rfl rfl ?_
      refine own_iloadN X50 hx hby at_36 rfl rfl ?_
      refine own_if_eq X50 hx hby at_37 (pcY := 56) (pcN := 40) (by decide) rfl (fun (hc51 : (0 : Int32) = (0 : Int32)) => ?_) (fun (hc51 : ¬ (0 : Int32) = (0 : Int32)) => False.elim (by exact absurd hc51 (by decide)))
      refine own_aload X50 hx hby at_56 rfl rfl rfl ?_
      refine own_getstatic X50 hx hby hZ hown (host := "") (Or.inl (hw _ tw_8)) Via.refl e50 ((g_S_FALSE G).ext O) at_58 rfl (fun T52 X52 e52 => ?_)
      refine own_acmp_ne X52 hx hby at_61 (pcY := 68) (pcN := 64) (by decide) rfl rfl rfl (fun (hc53 : ¬ ((.ref a_FALSE) : Value) = (.ref a_FALSE)) => False.elim (by exact hc53 rfl)) (fun (hc53 : ((.ref a_FALSE) : Value) = (.ref a_FALSE)) => ?_)
      refine own_iconst X52 hx hby at_64 rfl (1 : Int32) rfl ?_
      refine own_goto X52 hx hby at_65 (pc' := 69) (by decide) ?_
      refine own_istore X52 hx hby at_69 rfl #[.val (.int x0), .val (.int x1), .val (.int (0 : Int32)), .val (.int (0 : Int32)), .val (.ref a_FALSE), .val (.ref a_FALSE), .val (.int (1 : Int32)), .unset, .unset, .unset, .unset, .unset] rfl ?_
      refine own_iloadN X52 hx hby at_71 rfl rfl ?_
      refine own_if_eq X52 hx hby at_72 (pcY := 91) (pcN := 75) (by decide) rfl (fun (hc54 : (0 : Int32) = (0 : Int32)) => ?_) (fun (hc54 : ¬ (0 : Int32) = (0 : Int32)) => False.elim (by exact absurd hc54 (by decide)))
      refine own_aload X52 hx hby at_91 rfl rfl rfl ?_
      refine own_getstatic X52 hx hby hZ hown (host := "") (Or.inl (hw _ tw_8)) Via.refl e52 ((g_S_FALSE G).ext O) at_93 rfl (fun T55 X55 e55 => ?_)
      refine own_acmp_ne X55 hx hby at_96 (pcY := 103) (pcN := 99) (by decide) rfl rfl rfl (fun (hc56 : ¬ ((.ref a_FALSE) : Value) = (.ref a_FALSE)) => False.elim (by exact hc56 rfl)) (fun (hc56 : ((.ref a_FALSE) : Value) = (.ref a_FALSE)) => ?_)
      refine own_iconst X55 hx hby at_99 rfl (1 : Int32) rfl ?_
      refine own_goto X55 hx hby at_100 (pc' := 104) (by decide) ?_
      refine own_istore X55 hx hby at_104 rfl #[.val (.int x0), .val (.int x1), .val (.int (0 : Int32)), .val (.int (0 : Int32)), .val (.ref a_FALSE), .val (.ref a_FALSE), .val (.int (1 : Int32)), .val (.int (1 : Int32)), .unset, .unset, .unset, .unset] rfl ?_
      refine own_aload X55 hx hby at_106 rfl rfl rfl ?_
      refine own_getstatic X55 hx hby hZ hown (host := "") (Or.inl (hw _ tw_10)) Via.refl e55 ((g_S_UNKNOWN G).ext O) at_108 rfl (fun T57 X57 e57 => ?_)
      refine own_acmp_eq X57 hx hby at_111 (pcY := 126) (pcN := 114) (by decide) rfl rfl rfl (fun (hc58 : ((.ref a_FALSE) : Value) = (.ref a_UNKNOWN)) => False.elim (by exact absurd (Value.ref.inj hc58) ((g_F_FALSE_ordinal G).ne (g_F_UNKNOWN_ordinal G) (by decide)))) (fun (hc58 : ¬ ((.ref a_FALSE) : Value) = (.ref a_UNKNOWN)) => ?_)
      refine own_aload X57 hx hby at_114 rfl rfl rfl ?_
      refine own_getstatic X57 hx hby hZ hown (host := "") (Or.inl (hw _ tw_10)) Via.refl e57 ((g_S_UNKNOWN G).ext O) at_116 rfl (fun T59 X59 e59 => ?_)
      refine own_acmp_eq X59 hx hby at_119 (pcY := 126) (pcN := 122) (by decide) rfl rfl rfl (fun (hc60 : ((.ref a_FALSE) : Value) = (.ref a_UNKNOWN)) => False.elim (by exact absurd (Value.ref.inj hc60) ((g_F_FALSE_ordinal G).ne (g_F_UNKNOWN_ordinal G) (by decide)))) (fun (hc60 : ¬ ((.ref a_FALSE) : Value) = (.ref a_UNKNOWN)) => ?_)
      refine own_iconst X59 hx hby at_122 rfl (1 : Int32) rfl ?_
      refine own_goto X59 hx hby at_123 (pc' := 127) (by decide) ?_
      refine own_istore X59 hx hby at_127 rfl #[.val (.int x0), .val (.int x1), .val (.int (0 : Int32)), .val (.int (0 : Int32)), .val (.ref a_FALSE), .val (.ref a_FALSE), .val (.int (1 : Int32)), .val (.int (1 : Int32)), .val (.int (1 : Int32)), .unset, .unset, .unset] rfl ?_
      refine own_iloadN X59 hx hby at_129 rfl rfl ?_
      refine own_if_eq X59 hx hby at_130 (pcY := 141) (pcN := 133) (by decide) rfl (fun (hc61 : (0 : Int32) = (0 : Int32)) => ?_) (fun (hc61 : ¬ (0 : Int32) = (0 : Int32)) => False.elim (by exact absurd hc61 (by decide)))
      refine own_iconst X59 hx hby at_141 rfl (0 : Int32) rfl ?_
      refine own_static X59 hx hby hZ (argsL := [(.int (0 : Int32))]) (rest := []) hown (hw _ tw_0) (hw _ tw_1) (hw _ tw_2) (hw _ tw_3) (by decide) (rm1_0 l Z a0 hw h0 G O) e59 (by rw [hml]; rfl) pd_3 rfl (by decide) (W := 0) (Nat.le_refl _) (by decide) (by decide) (by decide) at_142 rfl rfl (fun v62 T62 L62 X62 hQ62 => ?_)
      obtain ⟨rfl, rfl, e62⟩ := hQ62
      show Ends p.tables e below _ (T62.setTop (mkF m 145 #[.val (.int x0), .val (.int x1), .val (.int (0 : Int32)), .val (.int (0 : Int32)), .val (.ref a_FALSE), .val (.ref a_FALSE), .val (.int (1 : Int32)), .val (.int (1 : Int32)), .val (.int (1 : Int32)), .unset, .unset, .unset] [(.ref a_FALSE)]))
      refine own_aload X62 hx hby at_145 rfl rfl rfl ?_
      refine own_aload X62 hx hby at_147 rfl rfl rfl ?_
      refine own_virtual X62 hx hby hZ (Cn := "com/example/latticework/latticework/core/Truth") (a := a_FALSE) (argsL := [(.ref a_FALSE)]) (rest := [(.ref a_FALSE)]) hown (hw _ tw_12) (hw _ tw_13) (hw _ tw_15) (hw _ tw_14) (hw _ tw_2) (hw _ tw_16) (by decide) (rm2_FF l Z a0 hw h0 G O) ((g_E_FALSE G).ext O) e62 (by rw [hml]; rfl) pd_2 rfl (by decide) (W := 1) (Nat.le_refl _) (by decide) (by decide) (by decide) at_149 rfl rfl (fun v63 T63 L63 X63 hQ63 => ?_)
      obtain ⟨rfl, rfl, e63⟩ := hQ63
      show Ends p.tables e below _ (T63.setTop (mkF m 152 #[.val (.int x0), .val (.int x1), .val (.int (0 : Int32)), .val (.int (0 : Int32)), .val (.ref a_FALSE), .val (.ref a_FALSE), .val (.int (1 : Int32)), .val (.int (1 : Int32)), .val (.int (1 : Int32)), .unset, .unset, .unset] [(.ref a_FALSE), (.ref a_FALSE)]))
      refine own_acmp_ne X63 hx hby at_152 (pcY := 159) (pcN := 155) (by decide) rfl rfl rfl (fun (hc64 : ¬ ((.ref a_FALSE) : Value) = (.ref a_FALSE)) => False.elim (by exact hc64 rfl)) (fun (hc64 : ((.ref a_FALSE) : Value) = (.ref a_FALSE)) => ?_)
      refine own_iconst X63 hx hby at_155 rfl (1 : Int32) rfl ?_
      refine own_goto X63 hx hby at_156 (pc' := 160) (by decide) ?_
      refine own_istore X63 hx hby at_160 rfl #[.val (.int x0), .val (.int x1), .val (.int (0 : Int32)), .val (.int (0 : Int32)), .val (.ref a_FALSE), .val (.ref a_FALSE), .val (.int (1 : Int32)), .val (.int (1 : Int32)), .val (.int (1 : Int32)), .val (.int (1 : Int32)), .unset, .unset] rfl ?_
      refine own_iloadN X63 hx hby at_162 rfl rfl ?_
      refine own_if_ne X63 hx hby at_163 (pcY := 170) (pcN := 166) (by decide) rfl (fun (hc65 : ¬ (0 : Int32) = (0 : Int32)) => False.elim (by exact absurd hc65 (by decide))) (fun (hc65 : (0 : Int32) = (0 : Int32)) => ?_)
      refine own_iloadN X63 hx hby at_166 rfl rfl ?_
      refine own_if_eq X63 hx hby at_167 (pcY := 174) (pcN := 170) (by decide) rfl (fun (hc66 : (0 : Int32) = (0 : Int32)) => ?_) (fun (hc66 : ¬ (0 : Int32) = (0 : Int32)) => False.elim (by exact absurd hc66 (by decide)))
      refine own_iconst X63 hx hby at_174 rfl (0 : Int32) rfl ?_
      refine own_static X63 hx hby hZ (argsL := [(.int (0 : Int32))]) (rest := []) hown (hw _ tw_0) (hw _ tw_1) (hw _ tw_2) (hw _ tw_3) (by decide) (rm1_0 l Z a0 hw h0 G O) e63 (by rw [hml]; rfl) pd_3 rfl (by decide) (W := 0) (Nat.le_refl _) (by decide) (by decide) (by decide) at_175 rfl rfl (fun v67 T67 L67 X67 hQ67 => ?_)
      obtain ⟨rfl, rfl, e67⟩ := hQ67
      show Ends p.tables e below _ (T67.setTop (mkF m 178 #[.val (.int x0), .val (.int x1), .val (.int (0 : Int32)), .val (.int (0 : Int32)), .val (.ref a_FALSE), .val (.ref a_FALSE), .val (.int (1 : Int32)), .val (.int (1 : Int32)), .val (.int (1 : Int32)), .val (.int (1 : Int32)), .unset, .unset] [(.ref a_FALSE)]))
      refine own_aload X67 hx hby at_178 rfl rfl rfl ?_
      refine own_aload X67 hx hby at_180 rfl rfl rfl ?_
      refine own_virtual X67 hx hby hZ (Cn := "com/example/latticework/latticework/core/Truth") (a := a_FALSE) (argsL := [(.ref a_FALSE)]) (rest := [(.ref a_FALSE)]) hown (hw _ tw_17) (hw _ tw_18) (hw _ tw_20) (hw _ tw_19) (hw _ tw_2) (hw _ tw_21) (by decide) (rm3_FF l Z a0 hw h0 G O) ((g_E_FALSE G).ext O) e67 (by rw [hml]; rfl) pd_2 rfl (by decide) (W := 1) (Nat.le_refl _) (by decide) (by decide) (by decide) at_182 rfl rfl (fun v68 T68 L68 X68 hQ68 => ?_)
      obtain ⟨rfl, rfl, e68⟩ := hQ68
      show Ends p.tables e below _ (T68.setTop (mkF m 185 #[.val (.int x0), .val (.int x1), .val (.int (0 : Int32)), .val (.int (0 : Int32)), .val (.ref a_FALSE), .val (.ref a_FALSE), .val (.int (1 : Int32)), .val (.int (1 : Int32)), .val (.int (1 : Int32)), .val (.int (1 : Int32)), .unset, .unset] [(.ref a_FALSE), (.ref a_FALSE)]))
      refine own_acmp_ne X68 hx hby at_185 (pcY := 192) (pcN := 188) (by decide) rfl rfl rfl (fun (hc69 : ¬ ((.ref a_FALSE) : Value) = (.ref a_FALSE)) => False.elim (by exact hc69 rfl)) (fun (hc69 : ((.ref a_FALSE) : Value) = (.ref a_FALSE)) => ?_)
      refine own_iconst X68 hx hby at_188 rfl (1 : Int32) rfl ?_
      refine own_goto X68 hx hby at_189 (pc' := 193) (by decide) ?_
      refine own_istore X68 hx hby at_193 rfl #[.val (.int x0), .val (.int x1), .val (.int (0 : Int32)), .val (.int (0 : Int32)), .val (.ref a_FALSE), .val (.ref a_FALSE), .val (.int (1 : Int32)), .val (.int (1 : Int32)), .val (.int (1 : Int32)), .val (.int (1 : Int32)), .val (.int (1 : Int32)), .unset] rfl ?_
      refine own_iloadN X68 hx hby at_195 rfl rfl ?_
      refine own_if_ne X68 hx hby at_196 (pcY := 203) (pcN := 199) (by decide) rfl (fun (hc70 : ¬ (0 : Int32) = (0 : Int32)) => False.elim (by exact absurd hc70 (by decide))) (fun (hc70 : (0 : Int32) = (0 : Int32)) => ?_)
      refine own_iconst X68 hx hby at_199 rfl (1 : Int32) rfl ?_
      refine own_goto X68 hx hby at_200 (pc' := 204) (by decide) ?_
      refine own_static X68 hx hby hZ (argsL := [(.int (1 : Int32))]) (rest := []) hown (hw _ tw_0) (hw _ tw_1) (hw _ tw_2) (hw _ tw_3) (by decide) (rm1_1 l Z a0 hw h0 G O) e68 (by rw [hml]; rfl) pd_3 rfl (by decide) (W := 0) (Nat.le_refl _) (by decide) (by decide) (by decide) at_204 rfl rfl (fun v71 T71 L71 X71 hQ71 => ?_)
      obtain ⟨rfl, rfl, e71⟩ := hQ71
      show Ends p.tables e below _ (T71.setTop (mkF m 207 #[.val (.int x0), .val (.int x1), .val (.int (0 : Int32)), .val (.int (0 : Int32)), .val (.ref a_FALSE), .val (.ref a_FALSE), .val (.int (1 : Int32)), .val (.int (1 : Int32)), .val (.int (1 : Int32)), .val (.int (1 : Int32)), .val (.int (1 : Int32)), .unset] [(.ref a_TRUE)]))
      refine own_aload X71 hx hby at_207 rfl rfl rfl ?_
      refine own_virtual X71 hx hby hZ (Cn := "com/example/latticework/latticework/core/Truth") (a := a_FALSE) (argsL := []) (rest := [(.ref a_TRUE)]) hown (hw _ tw_37) (hw _ tw_23) (hw _ tw_25) (hw _ tw_24) (hw _ tw_2) (hw _ tw_26) (by decide) (rm4_F l Z a0 hw h0 G O) ((g_E_FALSE G).ext O) e71 (by rw [hml]; rfl) pd_1 rfl (by decide) (W := 1) (Nat.le_refl _) (by decide) (by decide) (by decide) at_209 rfl rfl (fun v72 T72 L72 X72 hQ72 => ?_)
      obtain ⟨rfl, rfl, e72⟩ := hQ72
      show Ends p.tables e below _ (T72.setTop (mkF m 212 #[.val (.int x0), .val (.int x1), .val (.int (0 : Int32)), .val (.int (0 : Int32)), .val (.ref a_FALSE), .val (.ref a_FALSE), .val (.int (1 : Int32)), .val (.int (1 : Int32)), .val (.int (1 : Int32)), .val (.int (1 : Int32)), .val (.int (1 : Int32)), .unset] [(.ref a_TRUE), (.ref a_TRUE)]))
      refine own_acmp_ne X72 hx hby at_212 (pcY := 219) (pcN := 215) (by decide) rfl rfl rfl (fun (hc73 : ¬ ((.ref a_TRUE) : Value) = (.ref a_TRUE)) => False.elim (by exact hc73 rfl)) (fun (hc73 : ((.ref a_TRUE) : Value) = (.ref a_TRUE)) => ?_)
      refine own_iconst X72 hx hby at_215 rfl (1 : Int32) rfl ?_
      refine own_goto X72 hx hby at_216 (pc' := 220) (by decide) ?_
      refine own_istore X72 hx hby at_220 rfl #[.val (.int x0), .val (.int x1), .val (.int (0 : Int32)), .val (.int (0 : Int32)), .val (.ref a_FALSE), .val (.ref a_FALSE), .val (.int (1 : Int32)), .val (.int (1 : Int32)), .val (.int (1 : Int32)), .val (.int (1 : Int32)), .val (.int (1 : Int32)), .val (.int (1 : Int32))] rfl ?_
      refine own_iload X72 hx hby at_222 rfl rfl ?_
      refine own_if_eq X72 hx hby at_224 (pcY := 256) (pcN := 227) (by decide) rfl (fun (hc74 : (1 : Int32) = (0 : Int32)) => False.elim (by exact absurd hc74 (by decide))) (fun (hc74 : ¬ (1 : Int32) = (0 : Int32)) => ?_)
      refine own_iload X72 hx hby at_227 rfl rfl ?_
      refine own_if_eq X72 hx hby at_229 (pcY := 256) (pcN := 232) (by decide) rfl (fun (hc75 : (1 : Int32) = (0 : Int32)) => False.elim (by exact absurd hc75 (by decide))) (fun (hc75 : ¬ (1 : Int32) = (0 : Int32)) => ?_)
      refine own_iload X72 hx hby at_232 rfl rfl ?_
      refine own_if_eq X72 hx hby at_234 (pcY := 256) (pcN := 237) (by decide) rfl (fun (hc76 : (1 : Int32) = (0 : Int32)) => False.elim (by exact absurd hc76 (by decide))) (fun (hc76 : ¬ (1 : Int32) = (0 : Int32)) => ?_)
      refine own_iload X72 hx hby at_237 rfl rfl ?_
      refine own_if_eq X72 hx hby at_239 (pcY := 256) (pcN := 242) (by decide) rfl (fun (hc77 : (1 : Int32) = (0 : Int32)) => False.elim (by exact absurd hc77 (by decide))) (fun (hc77 : ¬ (1 : Int32) = (0 : Int32)) => ?_)
      refine own_iload X72 hx hby at_242 rfl rfl ?_
      refine own_if_eq X72 hx hby at_244 (pcY := 256) (pcN := 247) (by decide) rfl (fun (hc78 : (1 : Int32) = (0 : Int32)) => False.elim (by exact absurd hc78 (by decide))) (fun (hc78 : ¬ (1 : Int32) = (0 : Int32)) => ?_)
      refine own_iload X72 hx hby at_247 rfl rfl ?_
      refine own_if_eq X72 hx hby at_249 (pcY := 256) (pcN := 252) (by decide) rfl (fun (hc79 : (1 : Int32) = (0 : Int32)) => False.elim (by exact absurd hc79 (by decide))) (fun (hc79 : ¬ (1 : Int32) = (0 : Int32)) => ?_)
      refine own_iconst X72 hx hby at_252 rfl (1 : Int32) rfl ?_
      refine own_goto X72 hx hby at_253 (pc' := 257) (by decide) ?_
      refine own_ret X72 hx hby hret hlk at_257 (.int (1 : Int32)) rfl (Or.inl ⟨rfl, by simp, _, rfl⟩) (by decide) (by decide) ?_
      exact ⟨rfl, (Fr.app (Fr.app (Fr.app (Fr.app (Fr.app (Fr.app (Fr.app (Fr.app N0 (Fr.nil _)) (Fr.nil _)) (Fr.nil _)) (Fr.nil _)) (Fr.nil _)) (Fr.nil _)) (Fr.nil _)) (Fr.nil _))⟩
    · -- pc 15: f
      refine own_iconst X0 hx hby at_18 rfl (1 : Int32) rfl ?_
      refine own_goto X0 hx hby at_19 (pc' := 23) (by decide) ?_
      refine own_istoreN X0 hx hby at_23 rfl #[.val (.int x0), .val (.int x1), .val (.int (0 : Int32)), .val (.int (1 : Int32)), .unset, .unset, .unset, .unset, .unset, .unset, .unset, .unset] rfl ?_
      refine own_iloadN X0 hx hby at_24 rfl rfl ?_
      refine own_static X0 hx hby hZ (argsL := [(.int (0 : Int32))]) (rest := []) hown (hw _ tw_0) (hw _ tw_1) (hw _ tw_2) (hw _ tw_3) (by decide) (rm1_0 l Z a0 hw h0 G O) e0 (by rw [hml]; rfl) pd_3 rfl (by decide) (W := 0) (Nat.le_refl _) (by decide) (by decide) (by decide) at_25 rfl rfl (fun v80 T80 L80 X80 hQ80 => ?_)
      obtain ⟨rfl, rfl, e80⟩ := hQ80
      show Ends p.tables e below _ (T80.setTop (mkF m 28 #[.val (.int x0), .val (.int x1), .val (.int (0 : Int32)), .val (.int (1 : Int32)), .unset, .unset, .unset, .unset, .unset, .unset, .unset, .unset] [(.ref a_FALSE)]))
      refine own_astore X80 hx hby at_28 rfl #[.val (.int x0), .val (.int x1), .val (.int (0 : Int32)), .val (.int (1 : Int32)), .val (.ref a_FALSE), .unset, .unset, .unset, .unset, .unset, .unset, .unset] rfl rfl ?_
      refine own_iloadN X80 hx hby at_30 rfl rfl ?_
      refine own_static X80 hx hby hZ (argsL := [(.int (1 : Int32))]) (rest := []) hown (hw _ tw_0) (hw _ tw_1) (hw _ tw_2) (hw _ tw_3) (by decide) (rm1_1 l Z a0 hw h0 G O) e80 (by rw [hml]; rfl) pd_3 rfl (by decide) (W := 0) (Nat.le_refl _) (by decide) (by decide) (by decide) at_31 rfl rfl (fun v81 T81 L81 X81 hQ81 => ?_)
      obtain ⟨rfl, rfl, e81⟩ := hQ81
      show Ends p.tables e below _ (T81.setTop (mkF m 34 #[.val (.int x0), .val (.int x1), .val (.int (0 : Int32)), .val (.int (1 : Int32)), .val (.ref a_FALSE), .unset, .unset, .unset, .unset, .unset, .unset, .unset] [(.ref a_TRUE)]))
      refine own_astore X81 hx hby at_34 rfl #[.val (.int x0), .val (.int x1), .val (.int (0 : Int32)), .val (.int (1 : Int32)), .val (.ref a_FALSE), .val (.ref a_TRUE), .unset, .unset, .unset, .unset, .unset, .unset] rfl rfl ?_
      refine own_iloadN X81 hx hby at_36 rfl rfl ?_
      refine own_if_eq X81 hx hby at_37 (pcY := 56) (pcN := 40) (by decide) rfl (fun (hc82 : (0 : Int32) = (0 : Int32)) => ?_) (fun (hc82 : ¬ (0 : Int32) = (0 : Int32)) => False.elim (by exact absurd hc82 (by decide)))
      refine own_aload X81 hx hby at_56 rfl rfl rfl ?_
      refine own_getstatic X81 hx hby hZ hown (host := "") (Or.inl (hw _ tw_8)) Via.refl e81 ((g_S_FALSE G).ext O) at_58 rfl (fun T83 X83 e83 => ?_)
      refine own_acmp_ne X83 hx hby at_61 (pcY := 68) (pcN := 64) (by decide) rfl rfl rfl (fun (hc84 : ¬ ((.ref a_FALSE) : Value) = (.ref a_FALSE)) => False.elim (by exact hc84 rfl)) (fun (hc84 : ((.ref a_FALSE) : Value) = (.ref a_FALSE)) => ?_)
      refine own_iconst X83 hx hby at_64 rfl (1 : Int32) rfl ?_
      refine own_goto X83 hx hby at_65 (pc' := 69) (by decide) ?_
      refine own_istore X83 hx hby at_69 rfl #[.val (.int x0), .val (.int x1), .val (.int (0 : Int32)), .val (.int (1 : Int32)), .val (.ref a_FALSE), .val (.ref a_TRUE), .val (.int (1 : Int32)), .unset, .unset, .unset, .unset, .unset] rfl ?_
      refine own_iloadN X83 hx hby at_71 rfl rfl ?_
      refine own_if_eq X83 hx hby at_72 (pcY := 91) (pcN := 75) (by decide) rfl (fun (hc85 : (1 : Int32) = (0 : Int32)) => False.elim (by exact absurd hc85 (by decide))) (fun (hc85 : ¬ (1 : Int32) = (0 : Int32)) => ?_)
      refine own_aload X83 hx hby at_75 rfl rfl rfl ?_
      refine own_getstatic X83 hx hby hZ hown (host := "") (Or.inl (hw _ tw_9)) Via.refl e83 ((g_S_TRUE G).ext O) at_77 rfl (fun T86 X86 e86 => ?_)
      refine own_acmp_ne X86 hx hby at_80 (pcY := 87) (pcN := 83) (by decide) rfl rfl rfl (fun (hc87 : ¬ ((.ref a_TRUE) : Value) = (.ref a_TRUE)) => False.elim (by exact hc87 rfl)) (fun (hc87 : ((.ref a_TRUE) : Value) = (.ref a_TRUE)) => ?_)
      refine own_iconst X86 hx hby at_83 rfl (1 : Int32) rfl ?_
      refine own_goto X86 hx hby at_84 (pc' := 104) (by decide) ?_
      refine own_istore X86 hx hby at_104 rfl #[.val (.int x0), .val (.int x1), .val (.int (0 : Int32)), .val (.int (1 : Int32)), .val (.ref a_FALSE), .val (.ref a_TRUE), .val (.int (1 : Int32)), .val (.int (1 : Int32)), .unset, .unset, .unset, .unset] rfl ?_
      refine own_aload X86 hx hby at_106 rfl rfl rfl ?_
      refine own_getstatic X86 hx hby hZ hown (host := "") (Or.inl (hw _ tw_10)) Via.refl e86 ((g_S_UNKNOWN G).ext O) at_108 rfl (fun T88 X88 e88 => ?_)
      refine own_acmp_eq X88 hx hby at_111 (pcY := 126) (pcN := 114) (by decide) rfl rfl rfl (fun (hc89 : ((.ref a_FALSE) : Value) = (.ref a_UNKNOWN)) => False.elim (by exact absurd (Value.ref.inj hc89) ((g_F_FALSE_ordinal G).ne (g_F_UNKNOWN_ordinal G) (by decide)))) (fun (hc89 : ¬ ((.ref a_FALSE) : Value) = (.ref a_UNKNOWN)) => ?_)
      refine own_aload X88 hx hby at_114 rfl rfl rfl ?_
      refine own_getstatic X88 hx hby hZ hown (host := "") (Or.inl (hw _ tw_10)) Via.refl e88 ((g_S_UNKNOWN G).ext O) at_116 rfl (fun T90 X90 e90 => ?_)
      refine own_acmp_eq X90 hx hby at_119 (pcY := 126) (pcN := 122) (by decide) rfl rfl rfl (fun (hc91 : ((.ref a_TRUE) : Value) = (.ref a_UNKNOWN)) => False.elim (by exact absurd (Value.ref.inj hc91) ((g_F_TRUE_ordinal G).ne (g_F_UNKNOWN_ordinal G) (by decide)))) (fun (hc91 : ¬ ((.ref a_TRUE) : Value) = (.ref a_UNKNOWN)) => ?_)
      refine own_iconst X90 hx hby at_122 rfl (1 : Int32) rfl ?_
      refine own_goto X90 hx hby at_123 (pc' := 127) (by decide) ?_
      refine own_istore X90 hx hby at_127 rfl #[.val (.int x0), .val (.int x1), .val (.int (0 : Int32)), .val (.int (1 : Int32)), .val (.ref a_FALSE), .val (.ref a_TRUE), .val (.int (1 : Int32)), .val (.int (1 : Int32)), .val (.int (1 : Int32)), .unset, .unset, .unset] rfl ?_
      refine own_iloadN X90 hx hby at_129 rfl rfl ?_
      refine own_if_eq X90 hx hby at_130 (pcY := 141) (pcN := 133) (by decide) rfl (fun (hc92 : (0 : Int32) = (0 : Int32)) => ?_) (fun (hc92 : ¬ (0 : Int32) = (0 : Int32)) => False.elim (by exact absurd hc92 (by decide)))
      refine own_iconst X90 hx hby at_141 rfl (0 : Int32) rfl ?_
      refine own_static X90 hx hby hZ (argsL := [(.int (0 : Int32))]) (rest := []) hown (hw _ tw_0) (hw _ tw_1) (hw _ tw_2) (hw _ tw_3) (by decide) (rm1_0 l Z a0 hw h0 G O) e90 (by rw [hml]; rfl) pd_3 rfl (by decide) (W := 0) (Nat.le_refl _) (by decide) (by decide) (by decide) at_142 rfl rfl (fun v93 T93 L93 X93 hQ93 => ?_)
      obtain ⟨rfl, rfl, e93⟩ := hQ93
      show Ends p.tables e below _ (T93.setTop (mkF m 145 #[.val (.int x0), .val (.int x1), .val (.int (0 : Int32)), .val (.int (1 : Int32)), .val (.ref a_FALSE), .val (.ref a_TRUE), .val (.int (1 : Int32)), .val (.int (1 : Int32)), .val (.int (1 : Int32)), .unset, .unset, .unset] [(.ref a_FALSE)]))
      refine own_aload X93 hx hby at_145 rfl rfl rfl ?_
      refine own_aload X93 hx hby at_147 rfl rfl rfl ?_
      refine own_virtual X93 hx hby hZ (Cn := "com/example/latticework/latticework/core/Truth") (a := a_FALSE) (argsL := [(.ref a_TRUE)]) (rest := [(.ref a_FALSE)]) hown (hw _ tw_12) (hw _ tw_13) (hw _ tw_15) (hw _ tw_14) (hw _ tw_2) (hw _ tw_16) (by decide) (rm2_FT l Z a0 hw h0 G O) ((g_E_FALSE G).ext O) e93 (by rw [hml]; rfl) pd_2 rfl (by decide) (W := 1) (Nat.le_refl _) (by decide) (by decide) (by decide) at_149 rfl rfl (fun v94 T94 L94 X94 hQ94 => ?_)
      obtain ⟨rfl, rfl, e94⟩ := hQ94
      show Ends p.tables e below _ (T94.setTop (mkF m 152 #[.val (.int x0), .val (.int x1), .val (.int (0 : Int32)), .val (.int (1 : Int32)), .val (.ref a_FALSE), .val (.ref a_TRUE), .val (.int (1 : Int32)), .val (.int (1 : Int32)), .val (.int (1 : Int32)), .unset, .unset, .unset] [(.ref a_FALSE), (.ref a_FALSE)]))
      refine own_acmp_ne X94 hx hby at_152 (pcY := 159) (pcN := 155) (by decide) rfl rfl rfl (fun (hc95 : ¬ ((.ref a_FALSE) : Value) = (.ref a_FALSE)) => False.elim (by exact hc95 rfl)) (fun (hc95 : ((.ref a_FALSE) : Value) = (.ref a_FALSE)) => ?_)
      refine own_iconst X94 hx hby at_155 rfl (1 : Int32) rfl ?_
      refine own_goto X94 hx hby at_156 (pc' := 160) (by decide) ?_
      refine own_istore X94 hx hby at_160 rfl #[.val (.int x0), .val (.int x1), .val (.int (0 : Int32)), .val (.int (1 : Int32)), .val (.ref a_FALSE), .val (.ref a_TRUE), .val (.int (1 : Int32)), .val (.int (1 : Int32)), .val (.int (1 : Int32)), .val (.int (1 : Int32)), .unset, .unset] rfl ?_
      refine own_iloadN X94 hx hby at_162 rfl rfl ?_
      refine own_if_ne X94 hx hby at_163 (pcY := 170) (pcN := 166) (by decide) rfl (fun (hc96 : ¬ (0 : Int32) = (0 : Int32)) => False.elim (by exact absurd hc96 (by decide))) (fun (hc96 : (0 : Int32) = (0 : Int32)) => ?_)
      refine own_iloadN X94 hx hby at_166 rfl rfl ?_
      refine own_if_eq X94 hx hby at_167 (pcY := 174) (pcN := 170) (by decide) rfl (fun (hc97 : (1 : Int32) = (0 : Int32)) => False.elim (by exact absurd hc97 (by decide))) (fun (hc97 : ¬ (1 : Int32) = (0 : Int32)) => ?_)
      refine own_iconst X94 hx hby at_170 rfl (1 : Int32) rfl ?_
      refine own_goto X94 hx hby at_171 (pc' := 175) (by decide) ?_
      refine own_static X94 hx hby hZ (argsL := [(.int (1 : Int32))]) (rest := []) hown (hw _ tw_0) (hw _ tw_1) (hw _ tw_2) (hw _ tw_3) (by decide) (rm1_1 l Z a0 hw h0 G O) e94 (by rw [hml]; rfl) pd_3 rfl (by decide) (W := 0) (Nat.le_refl _) (by decide) (by decide) (by decide) at_175 rfl rfl (fun v98 T98 L98 X98 hQ98 => ?_)
      obtain ⟨rfl, rfl, e98⟩ := hQ98
      show Ends p.tables e below _ (T98.setTop (mkF m 178 #[.val (.int x0), .val (.int x1), .val (.int (0 : Int32)), .val (.int (1 : Int32)), .val (.ref a_FALSE), .val (.ref a_TRUE), .val (.int (1 : Int32)), .val (.int (1 : Int32)), .val (.int (1 : Int32)), .val (.int (1 : Int32)), .unset, .unset] [(.ref a_TRUE)]))
      refine own_aload X98 hx hby at_178 rfl rfl rfl ?_
      refine own_aload X98 hx hby at_180 rfl rfl rfl ?_
      refine own_virtual X98 hx hby hZ (Cn := "com/example/latticework/latticework/core/Truth") (a := a_FALSE) (argsL := [(.ref a_TRUE)]) (rest := [(.ref a_TRUE)]) hown (hw _ tw_17) (hw _ tw_18) (hw _ tw_20) (hw _ tw_19) (hw _ tw_2) (hw _ tw_21) (by decide) (rm3_FT l Z a0 hw h0 G O) ((g_E_FALSE G).ext O) e98 (by rw [hml]; rfl) pd_2 rfl (by decide) (W := 1) (Nat.le_refl _) (by decide) (by decide) (by decide) at_182 rfl rfl (fun v99 T99 L99 X99 hQ99 => ?_)
      obtain ⟨rfl, rfl, e99⟩ := hQ99
      show Ends p.tables e below _ (T99.setTop (mkF m 185 #[.val (.int x0), .val (.int x1), .val (.int (0 : Int32)), .val (.int (1 : Int32)), .val (.ref a_FALSE), .val (.ref a_TRUE), .val (.int (1 : Int32)), .val (.int (1 : Int32)), .val (.int (1 : Int32)), .val (.int (1 : Int32)), .unset, .unset] [(.ref a_TRUE), (.ref a_TRUE)]))
      refine own_acmp_ne X99 hx hby at_185 (pcY := 192) (pcN := 188) (by decide) rfl rfl rfl (fun (hc100 : ¬ ((.ref a_TRUE) : Value) = (.ref a_TRUE)) => False.elim (by exact hc100 rfl)) (fun (hc100 : ((.ref a_TRUE) : Value) = (.ref a_TRUE)) => ?_)
      refine own_iconst X99 hx hby at_188 rfl (1 : Int32) rfl ?_
      refine own_goto X99 hx hby at_189 (pc' := 193) (by decide) ?_
      refine own_istore X99 hx hby at_193 rfl #[.val (.int x0), .val (.int x1), .val (.int (0 : Int32)), .val (.int (1 : Int32)), .val (.ref a_FALSE), .val (.ref a_TRUE), .val (.int (1 : Int32)), .val (.int (1 : Int32)), .val (.int (1 : Int32)), .val (.int (1 : Int32)), .val (.int (1 : Int32)), .unset] rfl ?_
      refine own_iloadN X99 hx hby at_195 rfl rfl ?_
      refine own_if_ne X99 hx hby at_196 (pcY := 203) (pcN := 199) (by decide) rfl (fun (hc101 : ¬ (0 : Int32) = (0 : Int32)) => False.elim (by exact absurd hc101 (by decide))) (fun (hc101 : (0 : Int32) = (0 : Int32)) => ?_)
      refine own_iconst X99 hx hby at_199 rfl (1 : Int32) rfl ?_
      refine own_goto X99 hx hby at_200 (pc' := 204) (by decide) ?_
      refine own_static X99 hx hby hZ (argsL := [(.int (1 : Int32))]) (rest := []) hown (hw _ tw_0) (hw _ tw_1) (hw _ tw_2) (hw _ tw_3) (by decide) (rm1_1 l Z a0 hw h0 G O) e99 (by rw [hml]; rfl) pd_3 rfl (by decide) (W := 0) (Nat.le_refl _) (by decide) (by decide) (by decide) at_204 rfl rfl (fun v102 T102 L102 X102 hQ102 => ?_)
      obtain ⟨rfl, rfl, e102⟩ := hQ102
      show Ends p.tables e below _ (T102.setTop (mkF m 207 #[.val (.int x0), .val (.int x1), .val (.int (0 : Int32)), .val (.int (1 : Int32)), .val (.ref a_FALSE), .val (.ref a_TRUE), .val (.int (1 : Int32)), .val (.int (1 : Int32)), .val (.int (1 : Int32)), .val (.int (1 : Int32)), .val (.int (1 : Int32)), .unset] [(.ref a_TRUE)]))
      refine own_aload X102 hx hby at_207 rfl rfl rfl ?_
      refine own_virtual X102 hx hby hZ (Cn := "com/example/latticework/latticework/core/Truth") (a := a_FALSE) (argsL := []) (rest := [(.ref a_TRUE)]) hown (hw _ tw_37) (hw _ tw_23) (hw _ tw_25) (hw _ tw_24) (hw _ tw_2) (hw _ tw_26) (by decide) (rm4_F l Z a0 hw h0 G O) ((g_E_FALSE G).ext O) e102 (by rw [hml]; rfl) pd_1 rfl (by decide) (W := 1) (Nat.le_refl _) (by decide) (by decide) (by decide) at_209 rfl rfl (fun v103 T103 L103 X103 hQ103 => ?_)
      obtain ⟨rfl, rfl, e103⟩ := hQ103
      show Ends p.tables e below _ (T103.setTop (mkF m 212 #[.val (.int x0), .val (.int x1), .val (.int (0 : Int32)), .val (.int (1 : Int32)), .val (.ref a_FALSE), .val (.ref a_TRUE), .val (.int (1 : Int32)), .val (.int (1 : Int32)), .val (.int (1 : Int32)), .val (.int (1 : Int32)), .val (.int (1 : Int32)), .unset] [(.ref a_TRUE), (.ref a_TRUE)]))
      refine own_acmp_ne X103 hx hby at_212 (pcY := 219) (pcN := 215) (by decide) rfl rfl rfl (fun (hc104 : ¬ ((.ref a_TRUE) : Value) = (.ref a_TRUE)) => False.elim (by exact hc104 rfl)) (fun (hc104 : ((.ref a_TRUE) : Value) = (.ref a_TRUE)) => ?_)
      refine own_iconst X103 hx hby at_215 rfl (1 : Int32) rfl ?_
      refine own_goto X103 hx hby at_216 (pc' := 220) (by decide) ?_
      refine own_istore X103 hx hby at_220 rfl #[.val (.int x0), .val (.int x1), .val (.int (0 : Int32)), .val (.int (1 : Int32)), .val (.ref a_FALSE), .val (.ref a_TRUE), .val (.int (1 : Int32)), .val (.int (1 : Int32)), .val (.int (1 : Int32)), .val (.int (1 : Int32)), .val (.int (1 : Int32)), .val (.int (1 : Int32))] rfl ?_
      refine own_iload X103 hx hby at_222 rfl rfl ?_
      refine own_if_eq X103 hx hby at_224 (pcY := 256) (pcN := 227) (by decide) rfl (fun (hc105 : (1 : Int32) = (0 : Int32)) => False.elim (by exact absurd hc105 (by decide))) (fun (hc105 : ¬ (1 : Int32) = (0 : Int32)) => ?_)
      refine own_iload X103 hx hby at_227 rfl rfl ?_
      refine own_if_eq X103 hx hby at_229 (pcY := 256) (pcN := 232) (by decide) rfl (fun (hc106 : (1 : Int32) = (0 : Int32)) => False.elim (by exact absurd hc106 (by decide))) (fun (hc106 : ¬ (1 : Int32) = (0 : Int32)) => ?_)
      refine own_iload X103 hx hby at_232 rfl rfl ?_
      refine own_if_eq X103 hx hby at_234 (pcY := 256) (pcN := 237) (by decide) rfl (fun (hc107 : (1 : Int32) = (0 : Int32)) => False.elim (by exact absurd hc107 (by decide))) (fun (hc107 : ¬ (1 : Int32) = (0 : Int32)) => ?_)
      refine own_iload X103 hx hby at_237 rfl rfl ?_
      refine own_if_eq X103 hx hby at_239 (pcY := 256) (pcN := 242) (by decide) rfl (fun (hc108 : (1 : Int32) = (0 : Int32)) => False.elim (by exact absurd hc108 (by decide))) (fun (hc108 : ¬ (1 : Int32) = (0 : Int32)) => ?_)
      refine own_iload X103 hx hby at_242 rfl rfl ?_
      refine own_if_eq X103 hx hby at_244 (pcY := 256) (pcN := 247) (by decide) rfl (fun (hc109 : (1 : Int32) = (0 : Int32)) => False.elim (by exact absurd hc109 (by decide))) (fun (hc109 : ¬ (1 : Int32) = (0 : Int32)) => ?_)
      refine own_iload X103 hx hby at_247 rfl rfl ?_
      refine own_if_eq X103 hx hby at_249 (pcY := 256) (pcN := 252) (by decide) rfl (fun (hc110 : (1 : Int32) = (0 : Int32)) => False.elim (by exact absurd hc110 (by decide))) (fun (hc110 : ¬ (1 : Int32) = (0 : Int32)) => ?_)
      refine own_iconst X103 hx hby at_252 rfl (1 : Int32) rfl ?_
      refine own_goto X103 hx hby at_253 (pc' := 257) (by decide) ?_
      refine own_ret X103 hx hby hret hlk at_257 (.int (1 : Int32)) rfl (Or.inl ⟨rfl, by simp, _, rfl⟩) (by decide) (by decide) ?_
      exact ⟨rfl, (Fr.app (Fr.app (Fr.app (Fr.app (Fr.app (Fr.app (Fr.app (Fr.app N0 (Fr.nil _)) (Fr.nil _)) (Fr.nil _)) (Fr.nil _)) (Fr.nil _)) (Fr.nil _)) (Fr.nil _)) (Fr.nil _))⟩
  · -- pc 3: f
    refine own_iconst X0 hx hby at_6 rfl (1 : Int32) rfl ?_
    refine own_goto X0 hx hby at_7 (pc' := 11) (by decide) ?_
    refine own_istoreN X0 hx hby at_11 rfl #[.val (.int x0), .val (.int x1), .val (.int (1 : Int32)), .unset, .unset, .unset, .unset, .unset, .unset, .unset, .unset, .unset] rfl ?_
    refine own_iloadN X0 hx hby at_12 rfl rfl ?_
    refine own_iconst X0 hx hby at_13 rfl (1 : Int32) rfl ?_
    refine own_iand X0 hx hby at_14 rfl ?_
    refine own_if_eq X0 hx hby at_15 (pcY := 22) (pcN := 18) (by decide) rfl (fun (hc111 : (x1 &&& (1 : Int32)) = (0 : Int32)) => ?_) (fun (hc111 : ¬ (x1 &&& (1 : Int32)) = (0 : Int32)) => ?_)
    · -- pc 15: t
      refine own_iconst X0 hx hby at_22 rfl (0 : Int32) rfl ?_
      refine own_istoreN X0 hx hby at_23 rfl #[.val (.int x0), .val (.int x1), .val (.int (1 : Int32)), .val (.int (0 : Int32)), .unset, .unset, .unset, .unset, .unset, .unset, .unset, .unset] rfl ?_
      refine own_iloadN X0 hx hby at_24 rfl rfl ?_
      refine own_static X0 hx hby hZ (argsL := [(.int (1 : Int32))]) (rest := []) hown (hw _ tw_0) (hw _ tw_1) (hw _ tw_2) (hw _ tw_3) (by decide) (rm1_1 l Z a0 hw h0 G O) e0 (by rw [hml]; rfl) pd_3 rfl (by decide) (W := 0) (Nat.le_refl _) (by decide) (by decide) (by decide) at_25 rfl rfl (fun v112 T112 L112 X112 hQ112 => ?_)
      obtain ⟨rfl, rfl, e112⟩ := hQ112
      show Ends p.tables e below _ (T112.setTop (mkF m 28 #[.val (.int x0), .val (.int x1), .val (.int (1 : Int32)), .val (.int (0 : Int32)), .unset, .unset, .unset, .unset, .unset, .unset, .unset, .unset] [(.ref a_TRUE)]))
      refine own_astore X112 hx hby at_28 rfl #[.val (.int x0), .val (.int x1), .val (.int (1 : Int32)), .val (.int (0 : Int32)), .val (.ref a_TRUE), .unset, .unset, .unset, .unset, .unset, .unset, .unset] rfl rfl ?_
      refine own_iloadN X112 hx hby at_30 rfl rfl ?_
      refine own_static X112 hx hby hZ (argsL := [(.int (0 : Int32))]) (rest := []) hown (hw _ tw_0) (hw _ tw_1) (hw _ tw_2) (hw _ tw_3) (by decide) (rm1_0 l Z a0 hw h0 G O) e112 (by rw [hml]; rfl) pd_3 rfl (by decide) (W := 0) (Nat.le_refl _) (by decide) (by decide) (by decide) at_31 rfl rfl (fun v113 T113 L113 X113 hQ113 => ?_)
      obtain ⟨rfl, rfl, e113⟩ := hQ113
      show Ends p.tables e below _ (T113.setTop (mkF m 34 #[.val (.int x0), .val (.int x1), .val (.int (1 : Int32)), .val (.int (0 : Int32)), .val (.ref a_TRUE), .unset, .unset, .unset, .unset, .unset, .unset, .unset] [(.ref a_FALSE)]))
      refine own_astore X113 hx hby at_34 rfl #[.val (.int x0), .val (.int x1), .val (.int (1 : Int32)), .val (.int (0 : Int32)), .val (.ref a_TRUE), .val (.ref a_FALSE), .unset, .unset, .unset, .unset, .unset, .unset] rfl rfl ?_
      refine own_iloadN X113 hx hby at_36 rfl rfl ?_
      refine own_if_eq X113 hx hby at_37 (pcY := 56) (pcN := 40) (by decide) rfl (fun (hc114 : (1 : Int32) = (0 : Int32)) => False.elim (by exact absurd hc114 (by decide))) (fun (hc114 : ¬ (1 : Int32) = (0 : Int32)) => ?_)
      refine own_aload X113 hx hby at_40 rfl rfl rfl ?_
      refine own_getstatic X113 hx hby hZ hown (host := "") (Or.inl (hw _ tw_9)) Via.refl e113 ((g_S_TRUE G).ext O) at_42 rfl (fun T115 X115 e115 => ?_)
      refine own_acmp_ne X115 hx hby at_45 (pcY := 52) (pcN := 48) (by decide) rfl rfl rfl (fun (hc116 : ¬ ((.ref a_TRUE) : Value) = (.ref a_TRUE)) => False.elim (by exact hc116 rfl)) (fun (hc116 : ((.ref a_TRUE) : Value) = (.ref a_TRUE)) => ?_)
      refine own_iconst X115 hx hby at_48 rfl (1 : Int32) rfl ?_
      refine own_goto X115 hx hby at_49 (pc' := 69) (by decide) ?_
      refine own_istore X115 hx hby at_69 rfl #[.val (.int x0), .val (.int x1), .val (.int (1 : Int32)), .val (.int (0 : Int32)), .val (.ref a_TRUE), .val (.ref a_FALSE), .val (.int (1 : Int32)), .unset, .unset, .unset, .unset, .unset] rfl ?_
      refine own_iloadN X115 hx hby at_71 rfl rfl ?_
      refine own_if_eq X115 hx hby at_72 (pcY := 91) (pcN := 75) (by decide) rfl (fun (hc117 : (0 : Int32) = (0 : Int32)) => ?_) (fun (hc117 : ¬ (0 : Int32) = (0 : Int32)) => False.elim (by exact absurd hc117 (by decide)))
      refine own_aload X115 hx hby at_91 rfl rfl rfl ?_
      refine own_getstatic X115 hx hby hZ hown (host := "") (Or.inl (hw _ tw_8)) Via.refl e115 ((g_S_FALSE G).ext O) at_93 rfl (fun T118 X118 e118 => ?_)
      refine own_acmp_ne X118 hx hby at_96 (pcY := 103) (pcN := 99) (by decide) rfl rfl rfl (fun (hc119 : ¬ ((.ref a_FALSE) : Value) = (.ref a_FALSE)) => False.elim (by exact hc119 rfl)) (fun (hc119 : ((.ref a_FALSE) : Value) = (.ref a_FALSE)) => ?_)
      refine own_iconst X118 hx hby at_99 rfl (1 : Int32) rfl ?_
      refine own_goto X118 hx hby at_100 (pc' := 104) (by decide) ?_
      refine own_istore X118 hx hby at_104 rfl #[.val (.int x0), .val (.int x1), .val (.int (1 : Int32)), .val (.int (0 : Int32)), .val (.ref a_TRUE), .val (.ref a_FALSE), .val (.int (1 : Int32)), .val (.int (1 : Int32)), .unset, .unset, .unset, .unset] rfl ?_
      refine own_aload X118 hx hby at_106 rfl rfl rfl ?_
      refine own_getstatic X118 hx hby hZ hown (host := "") (Or.inl (hw _ tw_10)) Via.refl e118 ((g_S_UNKNOWN G).ext O) at_108 rfl (fun T120 X120 e120 => ?_)
      refine own_acmp_eq X120 hx hby at_111 (pcY := 126) (pcN := 114) (by decide) rfl rfl rfl (fun (hc121 : ((.ref a_TRUE) : Value) = (.ref a_UNKNOWN)) => False.elim (by exact absurd (Value.ref.inj hc121) ((g_F_TRUE_ordinal G).ne (g_F_UNKNOWN_ordinal G) (by decide)))) (fun (hc121 : ¬ ((.ref a_TRUE) : Value) = (.ref a_UNKNOWN)) => ?_)
      refine own_aload X120 hx hby at_114 rfl rfl rfl ?_
      refine own_getstatic X120 hx hby hZ hown (host := "") (Or.inl (hw _ tw_10)) Via.refl e120 ((g_S_UNKNOWN G).ext O) at_116 rfl (fun T122 X122 e122 => ?_)
      refine own_acmp_eq X122 hx hby at_119 (pcY := 126) (pcN := 122) (by decide) rfl rfl rfl (fun (hc123 : ((.ref a_FALSE) : Value) = (.ref a_UNKNOWN)) => False.elim (by exact absurd (Value.ref.inj hc123) ((g_F_FALSE_ordinal G).ne (g_F_UNKNOWN_ordinal G) (by decide)))) (fun (hc123 : ¬ ((.ref a_FALSE) : Value) = (.ref a_UNKNOWN)) => ?_)
      refine own_iconst X122 hx hby at_122 rfl (1 : Int32) rfl ?_
      refine own_goto X122 hx hby at_123 (pc' := 127) (by decide) ?_
      refine own_istore X122 hx hby at_127 rfl #[.val (.int x0), .val (.int x1), .val (.int (1 : Int32)), .val (.int (0 : Int32)), .val (.ref a_TRUE), .val (.ref a_FALSE), .val (.int (1 : Int32)), .val (.int (1 : Int32)), .val (.int (1 : Int32)), .unset, .unset, .unset] rfl ?_
      refine own_iloadN X122 hx hby at_129 rfl rfl ?_
      refine own_if_eq X122 hx hby at_130 (pcY := 141) (pcN := 133) (by decide) rfl (fun (hc124 : (1 : Int32) = (0 : Int32)) => False.elim (by exact absurd hc124 (by decide))) (fun (hc124 : ¬ (1 : Int32) = (0 : Int32)) => ?_)
      refine own_iloadN X122 hx hby at_133 rfl rfl ?_
      refine own_if_eq X122 hx hby at_134 (pcY := 141) (pcN := 137) (by decide) rfl (fun (hc125 : (0 : Int32) = (0 : Int32)) => ?_) (fun (hc125 : ¬ (0 : Int32) = (0 : Int32)) => False.elim (by exact absurd hc125 (by decide)))
      refine own_iconst X122 hx hby at_141 rfl (0 : Int32) rfl ?_
      refine own_static X122 hx hby hZ (argsL := [(.int (0 : Int32))]) (rest := []) hown (hw _ tw_0) (hw _ tw_1) (hw _ tw_2) (hw _ tw_3) (by decide) (rm1_0 l Z a0 hw h0 G O) e122 (by rw [hml]; rfl) pd_3 rfl (by decide) (W := 0) (Nat.le_refl _) (by decide) (by decide) (by decide) at_142 rfl rfl (fun v126 T126 L126 X126 hQ126 => ?_)
      obtain ⟨rfl, rfl, e126⟩ := hQ126
      show Ends p.tables e below _ (T126.setTop (mkF m 145 #[.val (.int x0), .val (.int x1), .val (.int (1 : Int32)), .val (.int (0 : Int32)), .val (.ref a_TRUE), .val (.ref a_FALSE), .val (.int (1 : Int32)), .val (.int (1 : Int32)), .val (.int (1 : Int32)), .unset, .unset, .unset] [(.ref a_FALSE)]))
      refine own_aload X126 hx hby at_145 rfl rfl rfl ?_
      refine own_aload X126 hx hby at_147 rfl rfl rfl ?_
      refine own_virtual X126 hx hby hZ (Cn := "com/example/latticework/latticework/core/Truth") (a := a_TRUE) (argsL := [(.ref a_FALSE)]) (rest := [(.ref a_FALSE)]) hown (hw _ tw_12) (hw _ tw_13) (hw _ tw_15) (hw _ tw_14) (hw _ tw_2) (hw _ tw_16) (by decide) (rm2_TF l Z a0 hw h0 G O) ((g_E_TRUE G).ext O) e126 (by rw [hml]; rfl) pd_2 rfl (by decide) (W := 1) (Nat.le_refl _) (by decide) (by decide) (by decide) at_149 rfl rfl (fun v127 T127 L127 X127 hQ127 => ?_)
      obtain ⟨rfl, rfl, e127⟩ := hQ127
      show Ends p.tables e below _ (T127.setTop (mkF m 152 #[.val (.int x0), .val (.int x1), .val (.int (1 : Int32)), .val (.int (0 : Int32)), .val (.ref a_TRUE), .val (.ref a_FALSE), .val (.int (1 : Int32)), .val (.int (1 : Int32)), .val (.int (1 : Int32)), .unset, .unset, .unset] [(.ref a_FALSE), (.ref a_FALSE)]))
      refine own_acmp_ne X127 hx hby at_152 (pcY := 159) (pcN := 155) (by decide) rfl rfl rfl (fun (hc128 : ¬ ((.ref a_FALSE) : Value) = (.ref a_FALSE)) => False.elim (by exact hc128 rfl)) (fun (hc128 : ((.ref a_FALSE) : Value) = (.ref a_FALSE)) => ?_)
      refine own_iconst X127 hx hby at_155 rfl (1 : Int32) rfl ?_
      refine own_goto X127 hx hby at_156 (pc' := 160) (by decide) ?_
      refine own_istore X127 hx hby at_160 rfl #[.val (.int x0), .val (.int x1), .val (.int (1 : Int32)), .val (.int (0 : Int32)), .val (.ref a_TRUE), .val (.ref a_FALSE), .val (.int (1 : Int32)), .val (.int (1 : Int32)), .val (.int (1 : Int32)), .val (.int (1 : Int32)), .unset, .unset] rfl ?_
      refine own_iloadN X127 hx hby at_162 rfl rfl ?_
      refine own_if_ne X127 hx hby at_163 (pcY := 170) (pcN := 166) (by decide) rfl (fun (hc129 : ¬ (1 : Int32) = (0 : Int32)) => ?_) (fun (hc129 : (1 : Int32) = (0 : Int32)) => False.elim (by exact absurd hc129 (by decide)))
      refine own_iconst X127 hx hby at_170 rfl (1 : Int32) rfl ?_
      refine own_goto X127 hx hby at_171 (pc' := 175) (by decide) ?_
      refine own_static X127 hx hby hZ (argsL := [(.int (1 : Int32))]) (rest := []) hown (hw _ tw_0) (hw _ tw_1) (hw _ tw_2) (hw _ tw_3) (by decide) (rm1_1 l Z a0 hw h0 G O) e127 (by rw [hml]; rfl) pd_3 rfl (by decide) (W := 0) (Nat.le_refl _) (by decide) (by decide) (by decide) at_175 rfl rfl (fun v130 T130 L130 X130 hQ130 => ?_)
      obtain ⟨rfl, rfl, e130⟩ := hQ130
      show Ends p.tables e below _ (T130.setTop (mkF m 178 #[.val (.int x0), .val (.int x1), .val (.int (1 : Int32)), .val (.int (0 : Int32)), .val (.ref a_TRUE), .val (.ref a_FALSE), .val (.int (1 : Int32)), .val (.int (1 : Int32)), .val (.int (1 : Int32)), .val (.int (1 : Int32)), .unset, .unset] [(.ref a_TRUE)]))
      refine own_aload X130 hx hby at_178 rfl rfl rfl ?_
      refine own_aload X130 hx hby at_180 rfl rfl rfl ?_
      refine own_virtual X130 hx hby hZ (Cn := "com/example/latticework/latticework/core/Truth") (a := a_TRUE) (argsL := [(.ref a_FALSE)]) (rest := [(.ref a_TRUE)]) hown (hw _ tw_17) (hw _ tw_18) (hw _ tw_20) (hw _ tw_19) (hw _ tw_2) (hw _ tw_21) (by decide) (rm3_TF l Z a0 hw h0 G O) ((g_E_TRUE G).ext O) e130 (by rw [hml]; rfl) pd_2 rfl (by decide) (W := 1) (Nat.le_refl _) (by decide) (by decide) (by decide) at_182 rfl rfl (fun v131 T131 L131 X131 hQ131 => ?_)
      obtain ⟨rfl, rfl, e131⟩ := hQ131
      show Ends p.tables e below _ (T131.setTop (mkF m 185 #[.val (.int x0), .val (.int x1), .val (.int (1 : Int32)), .val (.int (0 : Int32)), .val (.ref a_TRUE), .val (.ref a_FALSE), .val (.int (1 : Int32)), .val (.int (1 : Int32)), .val (.int (1 : Int32)), .val (.int (1 : Int32)), .unset, .unset] [(.ref a_TRUE), (.ref a_TRUE)]))
      refine own_acmp_ne X131 hx hby at_185 (pcY := 192) (pcN := 188) (by decide) rfl rfl rfl (fun (hc132 : ¬ ((.ref a_TRUE) : Value) = (.ref a_TRUE)) => False.elim (by exact hc132 rfl)) (fun (hc132 : ((.ref a_TRUE) : Value) = (.ref a_TRUE)) => ?_)
      refine own_iconst X131 hx hby at_188 rfl (1 : Int32) rfl ?_
      refine own_goto X131 hx hby at_189 (pc' := 193) (by decide) ?_
      refine own_istore X131 hx hby at_193 rfl #[.val (.int x0), .val (.int x1), .val (.int (1 : Int32)), .val (.int (0 : Int32)), .val (.ref a_TRUE), .val (.ref a_FALSE), .val (.int (1 : Int32)), .val (.int (1 : Int32)), .val (.int (1 : Int32)), .val (.int (1 : Int32)), .val (.int (1 : Int32)), .unset] rfl ?_
      refine own_iloadN X131 hx hby at_195 rfl rfl ?_
      refine own_if_ne X131 hx hby at_196 (pcY := 203) (pcN := 199) (by decide) rfl (fun (hc133 : ¬ (1 : Int32) = (0 : Int32)) => ?_) (fun (hc133 : (1 : Int32) = (0 : Int32)) => False.elim (by exact absurd hc133 (by decide)))
      refine own_iconst X131 hx hby at_203 rfl (0 : Int32) rfl ?_
      refine own_static X131 hx hby hZ (argsL := [(.int (0 : Int32))]) (rest := []) hown (hw _ tw_0) (hw _ tw_1) (hw _ tw_2) (hw _ tw_3) (by decide) (rm1_0 l Z a0 hw h0 G O) e131 (by rw [hml]; rfl) pd_3 rfl (by decide) (W := 0) (Nat.le_refl _) (by decide) (by decide) (by decide) at_204 rfl rfl (fun v134 T134 L134 X134 hQ134 => ?_)
      obtain ⟨rfl, rfl, e134⟩ := hQ134
      show Ends p.tables e below _ (T134.setTop (mkF m 207 #[.val (.int x0), .val (.int x1), .val (.int (1 : Int32)), .val (.int (0 : Int32)), .val (.ref a_TRUE), .val (.ref a_FALSE), .val (.int (1 : Int32)), .val (.int (1 : Int32)), .val (.int (1 : Int32)), .val (.int (1 : Int32)), .val (.int (1 : Int32)), .unset] [(.ref a_FALSE)]))
      refine own_aload X134 hx hby at_207 rfl rfl rfl ?_
      refine own_virtual X134 hx hby hZ (Cn := "com/example/latticework/latticework/core/Truth") (a := a_TRUE) (argsL := []) (rest := [(.ref a_FALSE)]) hown (hw _ tw_37) (hw _ tw_23) (hw _ tw_25) (hw _ tw_24) (hw _ tw_2) (hw _ tw_26) (by decide) (rm4_T l Z a0 hw h0 G O) ((g_E_TRUE G).ext O) e134 (by rw [hml]; rfl) pd_1 rfl (by decide) (W := 1) (Nat.le_refl _) (by decide) (by decide) (by decide) at_209 rfl rfl (fun v135 T135 L135 X135 hQ135 => ?_)
      obtain ⟨rfl, rfl, e135⟩ := hQ135
      show Ends p.tables e below _ (T135.setTop (mkF m 212 #[.val (.int x0), .val (.int x1), .val (.int (1 : Int32)), .val (.int (0 : Int32)), .val (.ref a_TRUE), .val (.ref a_FALSE), .val (.int (1 : Int32)), .val (.int (1 : Int32)), .val (.int (1 : Int32)), .val (.int (1 : Int32)), .val (.int (1 : Int32)), .unset] [(.ref a_FALSE), (.ref a_FALSE)]))
      refine own_acmp_ne X135 hx hby at_212 (pcY := 219) (pcN := 215) (by decide) rfl rfl rfl (fun (hc136 : ¬ ((.ref a_FALSE) : Value) = (.ref a_FALSE)) => False.elim (by exact hc136 rfl)) (fun (hc136 : ((.ref a_FALSE) : Value) = (.ref a_FALSE)) => ?_)
      refine own_iconst X135 hx hby at_215 rfl (1 : Int32) rfl ?_
      refine own_goto X135 hx hby at_216 (pc' := 220) (by decide) ?_
      refine own_istore X135 hx hby at_220 rfl #[.val (.int x0), .val (.int x1), .val (.int (1 : Int32)), .val (.int (0 : Int32)), .val (.ref a_TRUE), .val (.ref a_FALSE), .val (.int (1 : Int32)), .val (.int (1 : Int32)), .val (.int (1 : Int32)), .val (.int (1 : Int32)), .val (.int (1 : Int32)), .val (.int (1 : Int32))] rfl ?_
      refine own_iload X135 hx hby at_222 rfl rfl ?_
      refine own_if_eq X135 hx hby at_224 (pcY := 256) (pcN := 227) (by decide) rfl (fun (hc137 : (1 : Int32) = (0 : Int32)) => False.elim (by exact absurd hc137 (by decide))) (fun (hc137 : ¬ (1 : Int32) = (0 : Int32)) => ?_)
      refine own_iload X135 hx hby at_227 rfl rfl ?_
      refine own_if_eq X135 hx hby at_229 (pcY := 256) (pcN := 232) (by decide) rfl (fun (hc138 : (1 : Int32) = (0 : Int32)) => False.elim (by exact absurd hc138 (by decide))) (fun (hc138 : ¬ (1 : Int32) = (0 : Int32)) => ?_)
      refine own_iload X135 hx hby at_232 rfl rfl ?_
      refine own_if_eq X135 hx hby at_234 (pcY := 256) (pcN := 237) (by decide) rfl (fun (hc139 : (1 : Int32) = (0 : Int32)) => False.elim (by exact absurd hc139 (by decide))) (fun (hc139 : ¬ (1 : Int32) = (0 : Int32)) => ?_)
      refine own_iload X135 hx hby at_237 rfl rfl ?_
      refine own_if_eq X135 hx hby at_239 (pcY := 256) (pcN := 242) (by decide) rfl (fun (hc140 : (1 : Int32) = (0 : Int32)) => False.elim (by exact absurd hc140 (by decide))) (fun (hc140 : ¬ (1 : Int32) = (0 : Int32)) => ?_)
      refine own_iload X135 hx hby at_242 rfl rfl ?_
      refine own_if_eq X135 hx hby at_244 (pcY := 256) (pcN := 247) (by decide) rfl (fun (hc141 : (1 : Int32) = (0 : Int32)) => False.elim (by exact absurd hc141 (by decide))) (fun (hc141 : ¬ (1 : Int32) = (0 : Int32)) => ?_)
      refine own_iload X135 hx hby at_247 rfl rfl ?_
      refine own_if_eq X135 hx hby at_249 (pcY := 256) (pcN := 252) (by decide) rfl (fun (hc142 : (1 : Int32) = (0 : Int32)) => False.elim (by exact absurd hc142 (by decide))) (fun (hc142 : ¬ (1 : Int32) = (0 : Int32)) => ?_)
      refine own_iconst X135 hx hby at_252 rfl (1 : Int32) rfl ?_
      refine own_goto X135 hx hby at_253 (pc' := 257) (by decide) ?_
      refine own_ret X135 hx hby hret hlk at_257 (.int (1 : Int32)) rfl (Or.inl ⟨rfl, by simp, _, rfl⟩) (by decide) (by decide) ?_
      exact ⟨rfl, (Fr.app (Fr.app (Fr.app (Fr.app (Fr.app (Fr.app (Fr.app (Fr.app N0 (Fr.nil _)) (Fr.nil _)) (Fr.nil _)) (Fr.nil _)) (Fr.nil _)) (Fr.nil _)) (Fr.nil _)) (Fr.nil _))⟩
    · -- pc 15: f
      refine own_iconst X0 hx hby at_18 rfl (1 : Int32) rfl ?_
      refine own_goto X0 hx hby at_19 (pc' := 23) (by decide) ?_
      refine own_istoreN X0 hx hby at_23 rfl #[.val (.int x0), .val (.int x1), .val (.int (1 : Int32)), .val (.int (1 : Int32)), .unset, .unset, .unset, .unset, .unset, .unset, .unset, .unset] rfl ?_
      refine own_iloadN X0 hx hby at_24 rfl rfl ?_
      refine own_static X0 hx hby hZ (argsL := [(.int (1 : Int32))]) (rest := []) hown (hw _ tw_0) (hw _ tw_1) (hw _ tw_2) (hw _ tw_3) (by decide) (rm1_1 l Z a0 hw h0 G O) e0 (by rw [hml]; rfl) pd_3 rfl (by decide) (W := 0) (Nat.le_refl _) (by decide) (by decide) (by decide) at_25 rfl rfl (fun v143 T143 L143 X143 hQ143 => ?_)
      obtain ⟨rfl, rfl, e143⟩ := hQ143
      show Ends p.tables e below _ (T143.setTop (mkF m 28 #[.val (.int x0), .val (.int x1), .val (.int (1 : Int32)), .val (.int (1 : Int32)), .unset, .unset, .unset, .unset, .unset, .unset, .unset, .unset] [(.ref a_TRUE)]))
      refine own_astore X143 hx hby at_28 rfl #[.val (.int x0), .val (.int x1), .val (.int (1 : Int32)), .val (.int (1 : Int32)), .val (.ref a_TRUE), .unset, .unset, .unset, .unset, .unset, .unset, .unset] rfl rfl ?_
      refine own_iloadN X143 hx hby at_30 rfl rfl ?_
      refine own_static X143 hx hby hZ (argsL := [(.int (1 : Int32))]) (rest := []) hown (hw _ tw_0) (hw _ tw_1) (hw _ tw_2) (hw _ tw_3) (by decide) (rm1_1 l Z a0 hw h0 G O) e143 (by rw [hml]; rfl) pd_3 rfl (by decide) (W := 0) (Nat.le_refl _) (by decide) (by decide) (by decide) at_31 rfl rfl (fun v144 T144 L144 X144 hQ144 => ?_)
      obtain ⟨rfl, rfl, e144⟩ := hQ144
      show Ends p.tables e below _ (T144.setTop (mkF m 34 #[.val (.int x0), .val (.int x1), .val (.int (1 : Int32)), .val (.int (1 : Int32)), .val (.ref a_TRUE), .unset, .unset, .unset, .unset, .unset, .unset, .unset] [(.ref a_TRUE)]))
      refine own_astore X144 hx hby at_34 rfl #[.val (.int x0), .val (.int x1), .val (.int (1 : Int32)), .val (.int (1 : Int32)), .val (.ref a_TRUE), .val (.ref a_TRUE), .unset, .unset, .unset, .unset, .unset, .unset] rfl rfl ?_
      refine own_iloadN X144 hx hby at_36 rfl rfl ?_
      refine own_if_eq X144 hx hby at_37 (pcY := 56) (pcN := 40) (by decide) rfl (fun (hc145 : (1 : Int32) = (0 : Int32)) => False.elim (by exact absurd hc145 (by decide))) (fun (hc145 : ¬ (1 : Int32) = (0 : Int32)) => ?_)
      refine own_aload X144 hx hby at_40 rfl rfl rfl ?_
      refine own_getstatic X144 hx hby hZ hown (host := "") (Or.inl (hw _ tw_9)) Via.refl e144 ((g_S_TRUE G).ext O) at_42 rfl (fun T146 X146 e146 => ?_)
      refine own_acmp_ne X146 hx hby at_45 (pcY := 52) (pcN := 48) (by decide) rfl rfl rfl (fun (hc147 : ¬ ((.ref a_TRUE) : Value) = (.ref a_TRUE)) => False.elim (by exact hc147 rfl)) (fun (hc147 : ((.ref a_TRUE) : Value) = (.ref a_TRUE)) => ?_)
      refine own_iconst X146 hx hby at_48 rfl (1 : Int32) rfl ?_
      refine own_goto X146 hx hby at_49 (pc' := 69) (by decide) ?_
      refine own_istore X146 hx hby at_69 rfl #[.val (.int x0), .val (.int x1), .val (.int (1 : Int32)), .val (.int (1 : Int32)), .val (.ref a_TRUE), .val (.ref a_TRUE), .val (.int (1 : Int32)), .unset, .unset, .unset, .unset, .unset] rfl ?_
      refine own_iloadN X146 hx hby at_71 rfl rfl ?_
      refine own_if_eq X146 hx hby at_72 (pcY := 91) (pcN := 75) (by decide) rfl (fun (hc148 : (1 : Int32) = (0 : Int32)) => False.elim (by exact absurd hc148 (by decide))) (fun (hc148 : ¬ (1 : Int32) = (0 : Int32)) => ?_)
      refine own_aload X146 hx hby at_75 rfl rfl rfl ?_
      refine own_getstatic X146 hx hby hZ hown (host := "") (Or.inl (hw _ tw_9)) Via.refl e146 ((g_S_TRUE G).ext O) at_77 rfl (fun T149 X149 e149 => ?_)
      refine own_acmp_ne X149 hx hby at_80 (pcY := 87) (pcN := 83) (by decide) rfl rfl rfl (fun (hc150 : ¬ ((.ref a_TRUE) : Value) = (.ref a_TRUE)) => False.elim (by exact hc150 rfl)) (fun (hc150 : ((.ref a_TRUE) : Value) = (.ref a_TRUE)) => ?_)
      refine own_iconst X149 hx hby at_83 rfl (1 : Int32) rfl ?_
      refine own_goto X149 hx hby at_84 (pc' := 104) (by decide) ?_
      refine own_istore X149 hx hby at_104 rfl #[.val (.int x0), .val (.int x1), .val (.int (1 : Int32)), .val (.int (1 : Int32)), .val (.ref a_TRUE), .val (.ref a_TRUE), .val (.int (1 : Int32)), .val (.int (1 : Int32)), .unset, .unset, .unset, .unset] rfl ?_
      refine own_aload X149 hx hby at_106 rfl rfl rfl ?_
      refine own_getstatic X149 hx hby hZ hown (host := "") (Or.inl (hw _ tw_10)) Via.refl e149 ((g_S_UNKNOWN G).ext O) at_108 rfl (fun T151 X151 e151 => ?_)
      refine own_acmp_eq X151 hx hby at_111 (pcY := 126) (pcN := 114) (by decide) rfl rfl rfl (fun (hc152 : ((.ref a_TRUE) : Value) = (.ref a_UNKNOWN)) => False.elim (by exact absurd (Value.ref.inj hc152) ((g_F_TRUE_ordinal G).ne (g_F_UNKNOWN_ordinal G) (by decide)))) (fun (hc152 : ¬ ((.ref a_TRUE) : Value) = (.ref a_UNKNOWN)) => ?_)
      refine own_aload X151 hx hby at_114 rfl rfl rfl ?_
      refine own_getstatic X151 hx hby hZ hown (host := "") (Or.inl (hw _ tw_10)) Via.refl e151 ((g_S_UNKNOWN G).ext O) at_116 rfl (fun T153 X153 e153 => ?_)
      refine own_acmp_eq X153 hx hby at_119 (pcY := 126) (pcN := 122) (by decide) rfl rfl rfl (fun (hc154 : ((.ref a_TRUE) : Value) = (.ref a_UNKNOWN)) => False.elim (by exact absurd (Value.ref.inj hc154) ((g_F_TRUE_ordinal G).ne (g_F_UNKNOWN_ordinal G) (by decide)))) (fun (hc154 : ¬ ((.ref a_TRUE) : Value) = (.ref a_UNKNOWN)) => ?_)
      refine own_iconst X153 hx hby at_122 rfl (1 : Int32) rfl ?_
      refine own_goto X153 hx hby at_123 (pc' := 127) (by decide) ?_
      refine own_istore X153 hx hby at_127 rfl #[.val (.int x0), .val (.int x1), .val (.int (1 : Int32)), .val (.int (1 : Int32)), .val (.ref a_TRUE), .val (.ref a_TRUE), .val (.int (1 : Int32)), .val (.int (1 : Int32)), .val (.int (1 : Int32)), .unset, .unset, .unset] rfl ?_
      refine own_iloadN X153 hx hby at_129 rfl rfl ?_
      refine own_if_eq X153 hx hby at_130 (pcY := 141) (pcN := 133) (by decide) rfl (fun (hc155 : (1 : Int32) = (0 : Int32)) => False.elim (by exact absurd hc155 (by decide))) (fun (hc155 : ¬ (1 : Int32) = (0 : Int32)) => ?_)
      refine own_iloadN X153 hx hby at_133 rfl rfl ?_
      refine own_if_eq X153 hx hby at_134 (pcY := 141) (pcN := 137) (by decide) rfl (fun (hc156 : (1 : Int32) = (0 : Int32)) => False.elim (by exact absurd hc156 (by decide))) (fun (hc156 : ¬ (1 : Int32) = (0 : Int32)) => ?_)
      refine own_iconst X153 hx hby at_137 rfl (1 : Int32) rfl ?_
      refine own_goto X153 hx hby at_138 (pc' := 142) (by decide) ?_
      refine own_static X153 hx hby hZ (argsL := [(.int (1 : Int32))]) (rest := []) hown (hw _ tw_0) (hw _ tw_1) (hw _ tw_2) (hw _ tw_3) (by decide) (rm1_1 l Z a0 hw h0 G O) e153 (by rw [hml]; rfl) pd_3 rfl (by decide) (W := 0) (Nat.le_refl _) (by decide) (by decide) (by decide) at_142 rfl rfl (fun v157 T157 L157 X157 hQ157 => ?_)
      obtain ⟨rfl, rfl, e157⟩ := hQ157
      show Ends p.tables e below _ (T157.setTop (mkF m 145 #[.val (.int x0), .val (.int x1), .val (.int (1 : Int32)), .val (.int (1 : Int32)), .val (.ref a_TRUE), .val (.ref a_TRUE), .val (.int (1 : Int32)), .val (.int (1 : Int32)), .val (.int (1 : Int32)), .unset, .unset, .unset] [(.ref a_TRUE)]))
      refine own_aload X157 hx hby at_145 rfl rfl rfl ?_
      refine own_aload X157 hx hby at_147 rfl rfl rfl ?_
      refine own_virtual X157 hx hby hZ (Cn := "com/example/latticework/latticework/core/Truth") (a := a_TRUE) (argsL := [(.ref a_TRUE)]) (rest := [(.ref a_TRUE)]) hown (hw _ tw_12) (hw _ tw_13) (hw _ tw_15) (hw _ tw_14) (hw _ tw_2) (hw _ tw_16) (by decide) (rm2_TT l Z a0 hw h0 G O) ((g_E_TRUE G).ext O) e157 (by rw [hml]; rfl) pd_2 rfl (by decide) (W := 1) (Nat.le_refl _) (by decide) (by decide) (by decide) at_149 rfl rfl (fun v158 T158 L158 X158 hQ158 => ?_)
      obtain ⟨rfl, rfl, e158⟩ := hQ158
      show Ends p.tables e below _ (T158.setTop (mkF m 152 #[.val (.int x0), .val (.int x1), .val (.int (1 : Int32)), .val (.int (1 : Int32)), .val (.ref a_TRUE), .val (.ref a_TRUE), .val (.int (1 : Int32)), .val (.int (1 : Int32)), .val (.int (1 : Int32)), .unset, .unset, .unset] [(.ref a_TRUE), (.ref a_TRUE)]))
      refine own_acmp_ne X158 hx hby at_152 (pcY := 159) (pcN := 155) (by decide) rfl rfl rfl (fun (hc159 : ¬ ((.ref a_TRUE) : Value) = (.ref a_TRUE)) => False.elim (by exact hc159 rfl)) (fun (hc159 : ((.ref a_TRUE) : Value) = (.ref a_TRUE)) => ?_)
      refine own_iconst X158 hx hby at_155 rfl (1 : Int32) rfl ?_
      refine own_goto X158 hx hby at_156 (pc' := 160) (by decide) ?_
      refine own_istore X158 hx hby at_160 rfl #[.val (.int x0), .val (.int x1), .val (.int (1 : Int32)), .val (.int (1 : Int32)), .val (.ref a_TRUE), .val (.ref a_TRUE), .val (.int (1 : Int32)), .val (.int (1 : Int32)), .val (.int (1 : Int32)), .val (.int (1 : Int32)), .unset, .unset] rfl ?_
      refine own_iloadN X158 hx hby at_162 rfl rfl ?_
      refine own_if_ne X158 hx hby at_163 (pcY := 170) (pcN := 166) (by decide) rfl (fun (hc160 : ¬ (1 : Int32) = (0 : Int32)) => ?_) (fun (hc160 : (1 : Int32) = (0 : Int32)) => False.elim (by exact absurd hc160 (by decide)))
      refine own_iconst X158 hx hby at_170 rfl (1 : Int32) rfl ?_
      refine own_goto X158 hx hby at_171 (pc' := 175) (by decide) ?_
      refine own_static X158 hx hby hZ (argsL := [(.int (1 : Int32))]) (rest := []) hown (hw _ tw_0) (hw _ tw_1) (hw _ tw_2) (hw _ tw_3) (by decide) (rm1_1 l Z a0 hw h0 G O) e158 (by rw [hml]; rfl) pd_3 rfl (by decide) (W := 0) (Nat.le_refl _) (by decide) (by decide) (by decide) at_175 rfl rfl (fun v161 T161 L161 X161 hQ161 => ?_)
      obtain ⟨rfl, rfl, e161⟩ := hQ161
      show Ends p.tables e below _ (T161.setTop (mkF m 178 #[.val (.int x0), .val (.int x1), .val (.int (1 : Int32)), .val (.int (1 : Int32)), .val (.ref a_TRUE), .val (.ref a_TRUE), .val (.int (1 : Int32)), .val (.int (1 : Int32)), .val (.int (1 : Int32)), .val (.int (1 : Int32)), .unset, .unset] [(.ref a_TRUE)]))
      refine own_aload X161 hx hby at_178 rfl rfl rfl ?_
      refine own_aload X161 hx hby at_180 rfl rfl rfl ?_
      refine own_virtual X161 hx hby hZ (Cn := "com/example/latticework/latticework/core/Truth") (a := a_TRUE) (argsL := [(.ref a_TRUE)]) (rest := [(.ref a_TRUE)]) hown (hw _ tw_17) (hw _ tw_18) (hw _ tw_20) (hw _ tw_19) (hw _ tw_2) (hw _ tw_21) (by decide) (rm3_TT l Z a0 hw h0 G O) ((g_E_TRUE G).ext O) e161 (by rw [hml]; rfl) pd_2 rfl (by decide) (W := 1) (Nat.le_refl _) (by decide) (by decide) (by decide) at_182 rfl rfl (fun v162 T162 L162 X162 hQ162 => ?_)
      obtain ⟨rfl, rfl, e162⟩ := hQ162
      show Ends p.tables e below _ (T162.setTop (mkF m 185 #[.val (.int x0), .val (.int x1), .val (.int (1 : Int32)), .val (.int (1 : Int32)), .val (.ref a_TRUE), .val (.ref a_TRUE), .val (.int (1 : Int32)), .val (.int (1 : Int32)), .val (.int (1 : Int32)), .val (.int (1 : Int32)), .unset, .unset] [(.ref a_TRUE), (.ref a_TRUE)]))
      refine own_acmp_ne X162 hx hby at_185 (pcY := 192) (pcN := 188) (by decide) rfl rfl rfl (fun (hc163 : ¬ ((.ref a_TRUE) : Value) = (.ref a_TRUE)) => False.elim (by exact hc163 rfl)) (fun (hc163 : ((.ref a_TRUE) : Value) = (.ref a_TRUE)) => ?_)
      refine own_iconst X162 hx hby at_188 rfl (1 : Int32) rfl ?_
      refine own_goto X162 hx hby at_189 (pc' := 193) (by decide) ?_
      refine own_istore X162 hx hby at_193 rfl #[.val (.int x0), .val (.int x1), .val (.int (1 : Int32)), .val (.int (1 : Int32)), .val (.ref a_TRUE), .val (.ref a_TRUE), .val (.int (1 : Int32)), .val (.int (1 : Int32)), .val (.int (1 : Int32)), .val (.int (1 : Int32)), .val (.int (1 : Int32)), .unset] rfl ?_
      refine own_iloadN X162 hx hby at_195 rfl rfl ?_
      refine own_if_ne X162 hx hby at_196 (pcY := 203) (pcN := 199) (by decide) rfl (fun (hc164 : ¬ (1 : Int32) = (0 : Int32)) => ?_) (fun (hc164 : (1 : Int32) = (0 : Int32)) => False.elim (by exact absurd hc164 (by decide)))
      refine own_iconst X162 hx hby at_203 rfl (0 : Int32) rfl ?_
      refine own_static X162 hx hby hZ (argsL := [(.int (0 : Int32))]) (rest := []) hown (hw _ tw_0) (hw _ tw_1) (hw _ tw_2) (hw _ tw_3) (by decide) (rm1_0 l Z a0 hw h0 G O) e162 (by rw [hml]; rfl) pd_3 rfl (by decide) (W := 0) (Nat.le_refl _) (by decide) (by decide) (by decide) at_204 rfl rfl (fun v165 T165 L165 X165 hQ165 => ?_)
      obtain ⟨rfl, rfl, e165⟩ := hQ165
      show Ends p.tables e below _ (T165.setTop (mkF m 207 #[.val (.int x0), .val (.int x1), .val (.int (1 : Int32)), .val (.int (1 : Int32)), .val (.ref a_TRUE), .val (.ref a_TRUE), .val (.int (1 : Int32)), .val (.int (1 : Int32)), .val (.int (1 : Int32)), .val (.int (1 : Int32)), .val (.int (1 : Int32)), .unset] [(.ref a_FALSE)]))
      refine own_aload X165 hx hby at_207 rfl rfl rfl ?_
      refine own_virtual X165 hx hby hZ (Cn := "com/example/latticework/latticework/core/Truth") (a := a_TRUE) (argsL := []) (rest := [(.ref a_FALSE)]) hown (hw _ tw_37) (hw _ tw_23) (hw _ tw_25) (hw _ tw_24) (hw _ tw_2) (hw _ tw_26) (by decide) (rm4_T l Z a0 hw h0 G O) ((g_E_TRUE G).ext O) e165 (by rw [hml]; rfl) pd_1 rfl (by decide) (W := 1) (Nat.le_refl _) (by decide) (by decide) (by decide) at_209 rfl rfl (fun v166 T166 L166 X166 hQ166 => ?_)
      obtain ⟨rfl, rfl, e166⟩ := hQ166
      show Ends p.tables e below _ (T166.setTop (mkF m 212 #[.val (.int x0), .val (.int x1), .val (.int (1 : Int32)), .val (.int (1 : Int32)), .val (.ref a_TRUE), .val (.ref a_TRUE), .val (.int (1 : Int32)), .val (.int (1 : Int32)), .val (.int (1 : Int32)), .val (.int (1 : Int32)), .val (.int (1 : Int32)), .unset] [(.ref a_FALSE), (.ref a_FALSE)]))
      refine own_acmp_ne X166 hx hby at_212 (pcY := 219) (pcN := 215) (by decide) rfl rfl rfl (fun (hc167 : ¬ ((.ref a_FALSE) : Value) = (.ref a_FALSE)) => False.elim (by exact hc167 rfl)) (fun (hc167 : ((.ref a_FALSE) : Value) = (.ref a_FALSE)) => ?_)
      refine own_iconst X166 hx hby at_215 rfl (1 : Int32) rfl ?_
      refine own_goto X166 hx hby at_216 (pc' := 220) (by decide) ?_
      refine own_istore X166 hx hby at_220 rfl #[.val (.int x0), .val (.int x1), .val (.int (1 : Int32)), .val (.int (1 : Int32)), .val (.ref a_TRUE), .val (.ref a_TRUE), .val (.int (1 : Int32)), .val (.int (1 : Int32)), .val (.int (1 : Int32)), .val (.int (1 : Int32)), .val (.int (1 : Int32)), .val (.int (1 : Int32))] rfl ?_
      refine own_iload X166 hx hby at_222 rfl rfl ?_
      refine own_if_eq X166 hx hby at_224 (pcY := 256) (pcN := 227) (by decide) rfl (fun (hc168 : (1 : Int32) = (0 : Int32)) => False.elim (by exact absurd hc168 (by decide))) (fun (hc168 : ¬ (1 : Int32) = (0 : Int32)) => ?_)
      refine own_iload X166 hx hby at_227 rfl rfl ?_
      refine own_if_eq X166 hx hby at_229 (pcY := 256) (pcN := 232) (by decide) rfl (fun (hc169 : (1 : Int32) = (0 : Int32)) => False.elim (by exact absurd hc169 (by decide))) (fun (hc169 : ¬ (1 : Int32) = (0 : Int32)) => ?_)
      refine own_iload X166 hx hby at_232 rfl rfl ?_
      refine own_if_eq X166 hx hby at_234 (pcY := 256) (pcN := 237) (by decide) rfl (fun (hc170 : (1 : Int32) = (0 : Int32)) => False.elim (by exact absurd hc170 (by decide))) (fun (hc170 : ¬ (1 : Int32) = (0 : Int32)) => ?_)
      refine own_iload X166 hx hby at_237 rfl rfl ?_
      refine own_if_eq X166 hx hby at_239 (pcY := 256) (pcN := 242) (by decide) rfl (fun (hc171 : (1 : Int32) = (0 : Int32)) => False.elim (by exact absurd hc171 (by decide))) (fun (hc171 : ¬ (1 : Int32) = (0 : Int32)) => ?_)
      refine own_iload X166 hx hby at_242 rfl rfl ?_
      refine own_if_eq X166 hx hby at_244 (pcY := 256) (pcN := 247) (by decide) rfl (fun (hc172 : (1 : Int32) = (0 : Int32)) => False.elim (by exact absurd hc172 (by decide))) (fun (hc172 : ¬ (1 : Int32) = (0 : Int32)) => ?_)
      refine own_iload X166 hx hby at_247 rfl rfl ?_
      refine own_if_eq X166 hx hby at_249 (pcY := 256) (pcN := 252) (by decide) rfl (fun (hc173 : (1 : Int32) = (0 : Int32)) => False.elim (by exact absurd hc173 (by decide))) (fun (hc173 : ¬ (1 : Int32) = (0 : Int32)) => ?_)
      refine own_iconst X166 hx hby at_252 rfl (1 : Int32) rfl ?_
      refine own_goto X166 hx hby at_253 (pc' := 257) (by decide) ?_
      refine own_ret X166 hx hby hret hlk at_257 (.int (1 : Int32)) rfl (Or.inl ⟨rfl, by simp, _, rfl⟩) (by decide) (by decide) ?_
      exact ⟨rfl, (Fr.app (Fr.app (Fr.app (Fr.app (Fr.app (Fr.app (Fr.app (Fr.app N0 (Fr.nil _)) (Fr.nil _)) (Fr.nil _)) (Fr.nil _)) (Fr.nil _)) (Fr.nil _)) (Fr.nil _)) (Fr.nil _))⟩
set_option maxRecDepth 65536 in
set_option maxHeartbeats 40000000 in
theorem comes_1 {Post : Tables → Env → Array Value → State → Outcome → State → Prop} (hpost : ∀ tb e args s v u, (limb_1_1.after args s (.returned v) u = true ∧ limb_1_2.after args s (.returned v) u = true ∧ True) → FrameEnd s (.returned v) u (Jvm.fieldLocs frame_1_writes args s ++ Jvm.arrayLocs frame_1_arrays args s ++ Jvm.staticLocs frame_1_statics s) 0 0 → Post tb e args s (.returned v) u) :
    ArmFor flags0 classFile x code maxLocals ret World_1 tables_1 room_1 Calls_1 rest_1 Pre_1 Post := by
  intro l hfl _ _ p e ha hc hk s m args below hf hA hF happ hP
  obtain ⟨hcalls, hrest, hpre⟩ := hP
  obtain ⟨-, -, -, hnamed, -, -, -, hat⟩ := (Spec.applies_iff hf).mp happ
  obtain ⟨hg, hn⟩ := and_e (Cond.before_iff.mp (show (Jvm.Cond.and given_1 narrow_1).before args s = true from hpre))
  obtain ⟨hcount, hg0⟩ := and_e hg
  obtain ⟨hv0, hg1⟩ := and_e hg0
  have hv1 := hg1
  obtain ⟨w0, w1, rfl⟩ : ∃ w0 w1 : Value, args = #[w0, w1] := by
    have hs : args.size = 2 := by simpa [Cond.value, given_1] using hcount
    obtain ⟨L⟩ := args
    match L, hs with
    | [w0, w1], _ => exact ⟨w0, w1, rfl⟩
  have hw := fun d (hd : d ∈ tables_1) => atoms_spec (ws := Jvm.Cond.code x code maxLocals ret :: tables_1) hat d (List.mem_cons_of_mem _ hd)
  have hfit : Fit s := fun {y c} hc i hi => by
    obtain ⟨ha, rfl⟩ := Array.getElem?_eq_some_iff.mp hc
    have q := List.all_eq_true.mp ((Array.all_eq_true_iff_forall_mem.mp hF) _ (Array.getElem_mem ha)) i (List.mem_range.mpr hi)
    simpa [Array.getElem?_eq_getElem hi] using q
  obtain ⟨i0, ei0⟩ := is_v hv0
  obtain rfl : w0 = (.int i0) := Option.some.inj ei0
  obtain ⟨i1, ei1⟩ := is_v hv1
  obtain rfl : w1 = (.int i1) := Option.some.inj ei1
  obtain ⟨n0, hn0⟩ := and_e hn
  obtain ⟨n1, hn1⟩ := and_e hn0
  obtain ⟨n2, hn2⟩ := and_e hn1
  obtain ⟨n3, hn3⟩ := and_e hn2
  obtain ⟨n4, hn4⟩ := and_e hn3
  have n5 := hn4
  obtain ⟨a_FALSE, ev_FALSE⟩ := exa_v n0
  have S_FALSE : Sta s s.heap "com/example/latticework/latticework/core/Truth" "FALSE" "Lcom/example/latticework/latticework/core/Truth;" (.ref a_FALSE) := Sta.start ev_FALSE (Or.inr ⟨(hw _ tw_2), (hw _ tw_5)⟩)
  have E_FALSE : Exa s s.heap a_FALSE "com/example/latticework/latticework/core/Truth" := Exa.start ev_FALSE n0
  obtain ⟨a_TRUE, ev_TRUE⟩ := exa_v n1
  have S_TRUE : Sta s s.heap "com/example/latticework/latticework/core/Truth" "TRUE" "Lcom/example/latticework/latticework/core/Truth;" (.ref a_TRUE) := Sta.start ev_TRUE (Or.inr ⟨(hw _ tw_2), (hw _ tw_7)⟩)
  have E_TRUE : Exa s s.heap a_TRUE "com/example/latticework/latticework/core/Truth" := Exa.start ev_TRUE n1
  obtain ⟨a_UNKNOWN, ev_UNKNOWN⟩ := exa_v n2
  have S_UNKNOWN : Sta s s.heap "com/example/latticework/latticework/core/Truth" "UNKNOWN" "Lcom/example/latticework/latticework/core/Truth;" (.ref a_UNKNOWN) := Sta.start ev_UNKNOWN (Or.inr ⟨(hw _ tw_2), (hw _ tw_11)⟩)
  have E_UNKNOWN : Exa s s.heap a_UNKNOWN "com/example/latticework/latticework/core/Truth" := Exa.start ev_UNKNOWN n2
  have F_FALSE_ordinal : Fld s s.heap a_FALSE "java/lang/Enum" "ordinal" "I" (.int (1 : Int32)) := Fld.start ((fld_at ev_FALSE).symm.trans (eqv_i (Term.int_eval _) n3))
  have F_UNKNOWN_ordinal : Fld s s.heap a_UNKNOWN "java/lang/Enum" "ordinal" "I" (.int (2 : Int32)) := Fld.start ((fld_at ev_UNKNOWN).symm.trans (eqv_i (Term.int_eval _) n4))
  have F_TRUE_ordinal : Fld s s.heap a_TRUE "java/lang/Enum" "ordinal" "I" (.int (0 : Int32)) := Fld.start ((fld_at ev_TRUE).symm.trans (eqv_i (Term.int_eval _) n5))
  have G : OwnG s a_FALSE a_TRUE a_UNKNOWN := ⟨S_FALSE, E_FALSE, S_TRUE, E_TRUE, S_UNKNOWN, E_UNKNOWN, F_FALSE_ordinal, F_UNKNOWN_ordinal, F_TRUE_ordinal⟩
  obtain ⟨n, o, h1, h2, h3, _, L, rfl, ⟨rfl, N⟩, hq⟩ := rm0 l s _ hw i0 i1 s.heap s.heap.size G ⟨Nat.le_refl _, fun _ _ q => q⟩ p e ha hc hk s m _ below hf ((Spec.applies_iff_loose hf).mp happ).1 ⟨rfl, State.Warmed39.refl s, rfl⟩ trivial
  refine ⟨n, _, h1, h2, h3, hpost _ _ _ _ _ _ ⟨Cond.after_iff.mpr rfl, Cond.after_iff.mpr (eq_i res_at (Term.int_eval (1)) rfl), trivial⟩ ⟨hq.1, hq.2.1, (hq.2.2.sift fun y hy => Or.inr (N y hy)).mono (by decide) (by decide)⟩⟩
theorem main_1_1 : Claimed_1_1 := comes_1 fun _ _ _ _ _ _ h hF => ⟨h.1, hF⟩
theorem main_1_2 : Claimed_1_2 := comes_1 fun _ _ _ _ _ _ h hF => ⟨h.2.1, hF⟩
end Jvm.Pilot.@@N@@
namespace Jvm.Pilot.@@N@@
open Jvm Jvm.ClassFile Sem Op Lib Jvm.Free Jvm.Stand Jvm.Pilot.@@N@@.Jvm.D
/-! MADE BY PROGRAM (witnessworld.py) out of the Statement's table words and the real class files: 12 classes; the members and pool entries that the words name. The judged class is class 1, her method 1. -/
namespace start1
open Jvm.ClassFile
def u (s : String) : CpInfo := .utf8 (stringToUtf16 s)
/-- a pool by its gaps: so many unusable entries, then the entry; so many at the end -/
def gap : Nat → List CpInfo → List CpInfo
  | 0, r => r
  | n + 1, r => .unusable :: gap n r
def poolList (es : List (Nat × CpInfo)) (last : Nat) : List CpInfo := es.foldr (fun e r => gap e.1 (e.2 :: r)) (gap last [])
def pool (es : List (Nat × CpInfo)) (last : Nat) : Array CpInfo := ⟨poolList es last⟩
def fileOf (pool : Array CpInfo) (this : Nat) (attrs : Array Attribute := #[]) (ms : Array MethodInfo := #[]) (fl : Nat := 33) (sup : Nat := 0) (ifs : Array Nat := #[]) (fds : Array FieldInfo := #[]) : ClassFile where
  minorVersion := 0
  majorVersion := 65
  constantPool := pool
  accessFlags := fl
  thisClass := this
  superClass := sup
  interfaces := ifs
  fields := fds
  methods := ms
  attributes := attrs
def plain (name : String) (sup : Option ClassId) : Class where
  name := name
  kind := .ordinary
  loader := none
  accessFlags := 33
  super := sup
  interfaces := #[]
  cf := none
  fields := #[]
  methods := #[]
  instanceTypes := #[]
  staticTypes := #[]
  resolved := #[]
  callSites := []
  init := .initialized
  statics := none
  mirror := none

def pool0 : Array CpInfo := pool [(5, u "<init>"), (0, u "()V"), (1, .class_ 10), (1, u "java/lang/Object")] 113

def k0m0 : Method := { name := "<init>", desc := "()V", sig := { parameters := [], returnType := none }, accessFlags := 1, code := none }
/-- java/lang/Object -/
def k0 : Class := { plain "java/lang/Object" none with
  accessFlags := 33
  interfaces := #[]
  cf := some (fileOf pool0 8 #[] #[{ accessFlags := 1, nameIndex := 5, descriptorIndex := 6, attributes := #[] }] 33 0 #[] #[])
  fields := #[]
  methods := #[k0m0]
  instanceTypes := #[]
  staticTypes := #[]
  resolved := Array.replicate 124 none
  statics := none }

def pool1 : Array CpInfo := pool [(2, .class_ 4), (1, u "java/lang/Object"), (0, u "<init>"), (0, u "()V"), (0, .methodref 8 9), (0, .class_ 10), (0, .nameAndType 11 12), (0, u "com/example/latticework/latticework/core/Truth"), (0, u "of"), (0, u "(Z)Lcom/example/latticework/latticework/core/Truth;"), (0, .fieldref 8 14), (0, .nameAndType 15 16), (0, u "TRUE"), (0, u "Lcom/example/latticework/latticework/core/Truth;"), (0, .fieldref 8 18), (0, .nameAndType 19 16), (0, u "FALSE"), (0, .fieldref 8 21), (0, .nameAndType 22 16), (0, u "UNKNOWN"), (0, .methodref 8 24), (0, .nameAndType 25 26), (0, u "and"), (0, u "(Lcom/example/latticework/latticework/core/Truth;)Lcom/example/latticework/latticework/core/Truth;"), (0, .methodref 8 28), (0, .nameAndType 29 26), (0, u "or"), (0, .methodref 8 31), (0, .nameAndType 32 33), (0, u "not"), (0, u "()Lcom/example/latticework/latticework/core/Truth;"), (0, .class_ 35), (0, u "com/example/latticework/latticework/core/TruthOfPinLaw"), (2, u "law"), (0, u "(II)Z")] 3

def k1m0 : Method := { name := "<init>", desc := "()V", sig := { parameters := [], returnType := none }, accessFlags := 2, code := none }
def k1c1 : Code := { maxStack := 3, maxLocals := 12, code := code, exceptionTable := #[], attributes := #[] }
def k1m1 : Method := { name := "law", desc := "(II)Z", sig := { parameters := [.int, .int], returnType := some .boolean }, accessFlags := 9, code := some k1c1 }
/-- com/example/latticework/latticework/core/TruthOfPinLaw -/
def k1 : Class := { plain "com/example/latticework/latticework/core/TruthOfPinLaw" (some 0) with
  accessFlags := 49
  interfaces := #[]
  cf := some (fileOf pool1 34 #[] #[{ accessFlags := 2, nameIndex := 5, descriptorIndex := 6, attributes := #[] }, { accessFlags := 9, nameIndex := 38, descriptorIndex := 39, attributes := #[] }] 49 2 #[] #[])
  fields := #[]
  methods := #[k1m0, k1m1]
  instanceTypes := #[]
  staticTypes := #[]
  resolved := Array.replicate 43 none
  statics := none }

def pool2 : Array CpInfo := pool [(1, .class_ 2), (0, u "java/lang/constant/Constable"), (0, .class_ 4), (0, u "java/lang/Object")] 6

/-- java/lang/constant/Constable -/
def k2 : Class := { plain "java/lang/constant/Constable" (some 0) with
  accessFlags := 1537
  interfaces := #[]
  cf := some (fileOf pool2 1 #[] #[] 1537 3 #[] #[])
  fields := #[]
  methods := #[]
  instanceTypes := #[]
  staticTypes := #[]
  resolved := Array.replicate 11 none
  statics := none }

def pool3 : Array CpInfo := pool [(1, .class_ 2), (0, u "java/lang/Comparable"), (0, .class_ 4), (0, u "java/lang/Object")] 7

/-- java/lang/Comparable -/
def k3 : Class := { plain "java/lang/Comparable" (some 0) with
  accessFlags := 1537
  interfaces := #[]
  cf := some (fileOf pool3 1 #[] #[] 1537 3 #[] #[])
  fields := #[]
  methods := #[]
  instanceTypes := #[]
  staticTypes := #[]
  resolved := Array.replicate 12 none
  statics := none }

def pool4 : Array CpInfo := pool [(1, .class_ 2), (0, u "java/io/Serializable"), (0, .class_ 4), (0, u "java/lang/Object")] 2

/-- java/io/Serializable -/
def k4 : Class := { plain "java/io/Serializable" (some 0) with
  accessFlags := 1537
  interfaces := #[]
  cf := some (fileOf pool4 1 #[] #[] 1537 3 #[] #[])
  fields := #[]
  methods := #[]
  instanceTypes := #[]
  staticTypes := #[]
  resolved := Array.replicate 7 none
  statics := none }

def pool5 : Array CpInfo := pool [(2, .class_ 4), (1, u "java/lang/Enum"), (0, u "name"), (0, u "Ljava/lang/String;"), (0, .fieldref 2 8), (0, .nameAndType 9 10), (0, u "ordinal"), (0, u "I"), (1, .class_ 14), (1, u "java/lang/Object"), (4, u "hash"), (86, .class_ 108), (1, u "java/lang/Enum$EnumDesc"), (2, .class_ 112), (0, u "java/lang/constant/Constable"), (0, .class_ 114), (0, u "java/lang/Comparable"), (0, .class_ 116), (0, u "java/io/Serializable"), (9, u "()I")] 77

def k5c0 : Code := { maxStack := 1, maxLocals := 1, code := jdk_37_method_2_code, exceptionTable := #[], attributes := #[] }
def k5m0 : Method := { name := "ordinal", desc := "()I", sig := { parameters := [], returnType := some .int }, accessFlags := 17, code := some k5c0 }
/-- java/lang/Enum -/
def k5 : Class := { plain "java/lang/Enum" (some 0) with
  accessFlags := 1057
  interfaces := #[2, 3, 4]
  cf := some (fileOf pool5 2 #[.nestMembers #[106]] #[{ accessFlags := 17, nameIndex := 9, descriptorIndex := 126, attributes := #[] }] 1057 12 #[111, 113, 115] #[{ accessFlags := 18, nameIndex := 5, descriptorIndex := 6, attributes := #[] }, { accessFlags := 18, nameIndex := 9, descriptorIndex := 10, attributes := #[] }, { accessFlags := 2, nameIndex := 19, descriptorIndex := 10, attributes := #[] }])
  fields := #[{ name := "name", type := (.object "java/lang/String"), accessFlags := 18, slot := 0, constantValue := 0 }, { name := "ordinal", type := .int, accessFlags := 18, slot := 1, constantValue := 0 }, { name := "hash", type := .int, accessFlags := 2, slot := 2, constantValue := 0 }]
  methods := #[k5m0]
  instanceTypes := #[(.object "java/lang/String"), .int, .int]
  staticTypes := #[]
  resolved := Array.replicate 204 none
  statics := none }

def pool6 : Array CpInfo := pool [(1, .class_ 2), (0, u "com/example/latticework/latticework/core/Truth"), (0, .fieldref 1 4), (0, .nameAndType 5 6), (0, u "TRUE"), (0, u "Lcom/example/latticework/latticework/core/Truth;"), (0, .fieldref 1 8), (0, .nameAndType 9 6), (0, u "FALSE"), (2, u "UNKNOWN"), (2, u "$VALUES"), (0, u "[Lcom/example/latticework/latticework/core/Truth;"), (6, .class_ 25), (1, u "java/lang/Enum"), (6, .methodref 1 33), (0, .nameAndType 34 35), (0, u "ordinal"), (0, u "()I"), (5, .methodref 1 42), (0, .nameAndType 43 44), (0, u "not"), (0, u "()Lcom/example/latticework/latticework/core/Truth;"), (0, .methodref 1 46), (0, .nameAndType 47 48), (0, u "and"), (0, u "(Lcom/example/latticework/latticework/core/Truth;)Lcom/example/latticework/latticework/core/Truth;"), (15, u "of"), (0, u "(Z)Lcom/example/latticework/latticework/core/Truth;"), (1, u "or")] 4

def k6c0 : Code := { maxStack := 1, maxLocals := 1, code := prog_55_method_4_code, exceptionTable := #[], attributes := #[] }
def k6m0 : Method := { name := "of", desc := "(Z)Lcom/example/latticework/latticework/core/Truth;", sig := { parameters := [.boolean], returnType := some (.object "com/example/latticework/latticework/core/Truth") }, accessFlags := 9, code := some k6c0 }
def k6c1 : Code := { maxStack := 4, maxLocals := 1, code := prog_55_method_5_code, exceptionTable := #[], attributes := #[] }
def k6m1 : Method := { name := "not", desc := "()Lcom/example/latticework/latticework/core/Truth;", sig := { parameters := [], returnType := some (.object "com/example/latticework/latticework/core/Truth") }, accessFlags := 1, code := some k6c1 }
def k6c2 : Code := { maxStack := 2, maxLocals := 2, code := prog_55_method_6_code, exceptionTable := #[], attributes := #[] }
def k6m2 : Method := { name := "and", desc := "(Lcom/example/latticework/latticework/core/Truth;)Lcom/example/latticework/latticework/core/Truth;", sig := { parameters := [(.object "com/example/latticework/latticework/core/Truth")], returnType := some (.object "com/example/latticework/latticework/core/Truth") }, accessFlags := 1, code := some k6c2 }
def k6c3 : Code := { maxStack := 2, maxLocals := 2, code := prog_55_method_7_code, exceptionTable := #[], attributes := #[] }
def k6m3 : Method := { name := "or", desc := "(Lcom/example/latticework/latticework/core/Truth;)Lcom/example/latticework/latticework/core/Truth;", sig := { parameters := [(.object "com/example/latticework/latticework/core/Truth")], returnType := some (.object "com/example/latticework/latticework/core/Truth") }, accessFlags := 1, code := some k6c3 }
/-- com/example/latticework/latticework/core/Truth -/
def k6 : Class := { plain "com/example/latticework/latticework/core/Truth" (some 5) with
  accessFlags := 16433
  interfaces := #[]
  cf := some (fileOf pool6 1 #[] #[{ accessFlags := 9, nameIndex := 64, descriptorIndex := 65, attributes := #[] }, { accessFlags := 1, nameIndex := 43, descriptorIndex := 44, attributes := #[] }, { accessFlags := 1, nameIndex := 47, descriptorIndex := 48, attributes := #[] }, { accessFlags := 1, nameIndex := 67, descriptorIndex := 48, attributes := #[] }] 16433 23 #[] #[{ accessFlags := 16409, nameIndex := 5, descriptorIndex := 6, attributes := #[] }, { accessFlags := 16409, nameIndex := 9, descriptorIndex := 6, attributes := #[] }, { accessFlags := 16409, nameIndex := 12, descriptorIndex := 6, attributes := #[] }, { accessFlags := 4122, nameIndex := 15, descriptorIndex := 16, attributes := #[] }])
  fields := #[{ name := "TRUE", type := (.object "com/example/latticework/latticework/core/Truth"), accessFlags := 16409, slot := 0, constantValue := 0 }, { name := "FALSE", type := (.object "com/example/latticework/latticework/core/Truth"), accessFlags := 16409, slot := 1, constantValue := 0 }, { name := "UNKNOWN", type := (.object "com/example/latticework/latticework/core/Truth"), accessFlags := 16409, slot := 2, constantValue := 0 }, { name := "$VALUES", type := (.array (.object "com/example/latticework/latticework/core/Truth")), accessFlags := 4122, slot := 3, constantValue := 0 }]
  methods := #[k6m0, k6m1, k6m2, k6m3]
  instanceTypes := #[(.object "java/lang/String"), .int, .int]
  staticTypes := #[(.object "com/example/latticework/latticework/core/Truth"), (.object "com/example/latticework/latticework/core/Truth"), (.object "com/example/latticework/latticework/core/Truth"), (.array (.object "com/example/latticework/latticework/core/Truth"))]
  resolved := Array.replicate 72 none
  statics := some 0 }

def pool7 : Array CpInfo := pool [(1, u "java/lang/Cloneable"), (0, .class_ 1), (0, u "java/lang/Object"), (0, .class_ 3)] 3

/-- java/lang/Cloneable -/
def k7 : Class := { plain "java/lang/Cloneable" (some 0) with
  accessFlags := 1537
  interfaces := #[]
  cf := some (fileOf pool7 2 #[] #[] 1537 4 #[] #[])
  fields := #[]
  methods := #[]
  instanceTypes := #[]
  staticTypes := #[]
  resolved := Array.replicate 8 none
  statics := none }

/-- the primitive byte -/
def k8 : Class := { plain "byte" none with kind := .primitive 'B', accessFlags := 0x411 }
/-- [B -/
def k9 : Class := { plain "[B" (some 0) with kind := .array 8 .byte, interfaces := #[7, 4], accessFlags := 1041 }

/-- the primitive int -/
def k10 : Class := { plain "int" none with kind := .primitive 'I', accessFlags := 0x411 }
/-- [I -/
def k11 : Class := { plain "[I" (some 0) with kind := .array 10 .int, interfaces := #[7, 4], accessFlags := 1041 }

def heap : Heap := #[{ cls := 6, slots := #[.ref 2, .ref 1, .ref 3, .null], vm := .statics 6 },
  { cls := 6, slots := #[.null, .int 1, .int 0], vm := .none },
  { cls := 6, slots := #[.null, .int 0, .int 0], vm := .none },
  { cls := 6, slots := #[.null, .int 2, .int 0], vm := .none }]
def classes : Array Class := #[k0, k1, k2, k3, k4, k5, k6, k7, k8, k9, k10, k11]
def interned : List (Array UInt16 × Addr) := []
def slotsUsed : Nat := 13
def theMethod : MethodId := ⟨1, 1⟩
def args0 : Array Value := #[.int 5, .int 5]
def aboutOver (below : List Frame) : State where
  vm := { classes := classes, interned := interned.toArray }
  heap := heap
  slotsUsed := slotsUsed
  threads := #[{ frames := .invoking theMethod args0 :: below }]
def below0 : List Frame := [.native { method := ⟨0, 0⟩, args := #[] }]
def about1 : State := aboutOver below0
def p0 : Program := .bare "" "" ""
def e0 : Env := launch0.env 0 0 0
theorem w_frames : about1.frames = Frame.invoking theMethod args0 :: below0 := rfl
set_option maxRecDepth 65536 in
theorem w_args : argsFit about1.vm theMethod args0 = true := by decide +kernel
set_option maxRecDepth 65536 in
theorem w_heap : heapFits about1 = true := by decide +kernel
set_option maxRecDepth 65536 in
theorem w_runnable : about1.curStatus? = some .runnable := by decide +kernel
set_option maxRecDepth 65536 in
theorem w_alone : about1.alone = true := by decide +kernel
set_option maxRecDepth 65536 in
theorem w_named : about1.methodNamed? x = some theMethod := by decide +kernel
set_option maxRecDepth 65536 in
theorem w_hears : about1.hears theMethod below0 = true := by decide +kernel
set_option maxRecDepth 65536 in
theorem w_ripe : about1.ripe theMethod args0 below0 = true := by decide +kernel
theorem w_running : about1.status = .running := rfl
set_option maxRecDepth 65536 in
theorem w_room : about1.hasRoom e0.platform room_1 = true :=
  launch0.hasRoom_least _ room_1 (by decide +kernel) (by decide +kernel) (by decide +kernel) (by decide +kernel) (by decide +kernel) (by decide +kernel)
theorem allAtoms_all (ts : List Jvm.Cond) (a : Array Jvm.Value) (st : Jvm.State) : (allAtoms ts).before a st = ts.all (fun c => c.before a st) := by
  induction ts with
  | nil => rfl
  | cons c t ih =>
    show (Jvm.Cond.and c (allAtoms t)).before a st = _
    rw [Jvm.Cond.before_and, ih, List.all_cons]
def words1 : List Jvm.Cond := Jvm.Cond.code x code maxLocals ret :: tables_1
/-- a 'code' word, met by the world's own term for the bytes: nothing is compared byte by byte -/
theorem code_word {y : MethodName} {bytes : ByteArray} {mx : Nat} {rt : Option FieldType} {a : Array Value} {s : State} {m : MethodId} {meth : Method} {c : Code} (h1 : s.methodNamed? y = some m) (h2 : s.vm.method? m = some meth) (h3 : meth.code = some c) (h4 : c.code = bytes)
    (h5 : (c.maxLocals == mx && c.exceptionTable.isEmpty && decide (c.maxStack ≤ mostOperands) && decide (meth.sig.returnType = rt) && !meth.locks && decide (parseMethodDescriptor y.desc = some meth.sig)) = true) : (Jvm.Cond.code y bytes mx rt).before a s = true := by
  simp only [Bool.and_eq_true, beq_iff_eq, Bool.not_eq_true', decide_eq_true_eq] at h5
  obtain ⟨⟨⟨⟨⟨g1, g2⟩, g3⟩, g4⟩, g5⟩, g6⟩ := h5
  simp [Cond.before, Cond.holds, Cond.value, h1, h2, h3, h4, g1, g2, g3, g4, g5, g6]
def isCode : Jvm.Cond → Bool
  | .code _ _ _ _ => true
  | _ => false
theorem all_split {L : List Jvm.Cond} {P : Jvm.Cond → Bool} (h1 : L.all (fun c => isCode c || P c) = true) (h2 : ∀ c ∈ L.filter isCode, P c = true) : L.all P = true := by
  refine List.all_eq_true.mpr fun c hc => ?_
  have h := List.all_eq_true.mp h1 c hc
  rcases Bool.eq_false_or_eq_true (isCode c) with hi | hi
  · exact h2 c (List.mem_filter.mpr ⟨hc, hi⟩)
  · simpa [hi] using h
set_option maxRecDepth 65536 in
theorem w_c0 : (Jvm.Cond.code x code maxLocals ret).before args0 about1 = true := code_word (m := ⟨1, 1⟩) (meth := k1m1) (c := k1c1) (by decide +kernel) rfl rfl rfl (by decide +kernel)
set_option maxRecDepth 65536 in
theorem w_c1 : (Jvm.Cond.code ({ cls := "com/example/latticework/latticework/core/Truth", name := "of", desc := "(Z)Lcom/example/latticework/latticework/core/Truth;" } : Jvm.MethodName) prog_55_method_4_code (1 : Nat) (Option.some (Jvm.ClassFile.FieldType.object "com/example/latticework/latticework/core/Truth"))).before args0 about1 = true := code_word (m := ⟨6, 0⟩) (meth := k6m0) (c := k6c0) (by decide +kernel) rfl rfl rfl (by decide +kernel)
set_option maxRecDepth 65536 in
theorem w_c2 : (Jvm.Cond.code ({ cls := "com/example/latticework/latticework/core/Truth", name := "and", desc := "(Lcom/example/latticework/latticework/core/Truth;)Lcom/example/latticework/latticework/core/Truth;" } : Jvm.MethodName) prog_55_method_6_code (2 : Nat) (Option.some (Jvm.ClassFile.FieldType.object "com/example/latticework/latticework/core/Truth"))).before args0 about1 = true := code_word (m := ⟨6, 2⟩) (meth := k6m2) (c := k6c2) (by decide +kernel) rfl rfl rfl (by decide +kernel)
set_option maxRecDepth 65536 in
theorem w_c3 : (Jvm.Cond.code ({ cls := "com/example/latticework/latticework/core/Truth", name := "or", desc := "(Lcom/example/latticework/latticework/core/Truth;)Lcom/example/latticework/latticework/core/Truth;" } : Jvm.MethodName) prog_55_method_7_code (2 : Nat) (Option.some (Jvm.ClassFile.FieldType.object "com/example/latticework/latticework/core/Truth"))).before args0 about1 = true := code_word (m := ⟨6, 3⟩) (meth := k6m3) (c := k6c3) (by decide +kernel) rfl rfl rfl (by decide +kernel)
set_option maxRecDepth 65536 in
theorem w_c4 : (Jvm.Cond.code ({ cls := "com/example/latticework/latticework/core/Truth", name := "not", desc := "()Lcom/example/latticework/latticework/core/Truth;" } : Jvm.MethodName) prog_55_method_5_code (1 : Nat) (Option.some (Jvm.ClassFile.FieldType.object "com/example/latticework/latticework/core/Truth"))).before args0 about1 = true := code_word (m := ⟨6, 1⟩) (meth := k6m1) (c := k6c1) (by decide +kernel) rfl rfl rfl (by decide +kernel)
set_option maxRecDepth 65536 in
theorem w_c5 : (Jvm.Cond.code ({ cls := "java/lang/Enum", name := "ordinal", desc := "()I" } : Jvm.MethodName) jdk_37_method_2_code (1 : Nat) (Option.some Jvm.ClassFile.FieldType.int)).before args0 about1 = true := code_word (m := ⟨5, 0⟩) (meth := k5m0) (c := k5c0) (by decide +kernel) rfl rfl rfl (by decide +kernel)
def codes1 : List Jvm.Cond := [Jvm.Cond.code x code maxLocals ret, Jvm.Cond.code ({ cls := "com/example/latticework/latticework/core/Truth", name := "of", desc := "(Z)Lcom/example/latticework/latticework/core/Truth;" } : Jvm.MethodName) prog_55_method_4_code (1 : Nat) (Option.some (Jvm.ClassFile.FieldType.object "com/example/latticework/latticework/core/Truth")), Jvm.Cond.code ({ cls := "com/example/latticework/latticework/core/Truth", name := "and", desc := "(Lcom/example/latticework/latticework/core/Truth;)Lcom/example/latticework/latticework/core/Truth;" } : Jvm.MethodName) prog_55_method_6_code (2 : Nat) (Option.some (Jvm.ClassFile.FieldType.object "com/example/latticework/latticework/core/Truth")), Jvm.Cond.code ({ cls := "com/example/latticework/latticework/core/Truth", name := "or", desc := "(Lcom/example/latticework/latticework/core/Truth;)Lcom/example/latticework/latticework/core/Truth;" } : Jvm.MethodName) prog_55_method_7_code (2 : Nat) (Option.some (Jvm.ClassFile.FieldType.object "com/example/latticework/latticework/core/Truth")), Jvm.Cond.code ({ cls := "com/example/latticework/latticework/core/Truth", name := "not", desc := "()Lcom/example/latticework/latticework/core/Truth;" } : Jvm.MethodName) prog_55_method_5_code (1 : Nat) (Option.some (Jvm.ClassFile.FieldType.object "com/example/latticework/latticework/core/Truth")), Jvm.Cond.code ({ cls := "java/lang/Enum", name := "ordinal", desc := "()I" } : Jvm.MethodName) jdk_37_method_2_code (1 : Nat) (Option.some Jvm.ClassFile.FieldType.int)]
set_option maxRecDepth 65536 in
theorem codes_eq : words1.filter isCode = codes1 := rfl
theorem w_codes : ∀ c ∈ words1.filter isCode, c.before args0 about1 = true := by
  rw [codes_eq]
  intro c hc
  simp only [codes1, List.mem_cons, List.not_mem_nil, or_false] at hc
  rcases hc with rfl | rfl | rfl | rfl | rfl | rfl
  · exact w_c0
  · exact w_c1
  · exact w_c2
  · exact w_c3
  · exact w_c4
  · exact w_c5
set_option maxRecDepth 65536 in
theorem w_t1 : (words1.take 24).all (fun c => isCode c || c.before args0 about1) = true := by decide +kernel
set_option maxRecDepth 65536 in
theorem w_t2 : (words1.drop 24).all (fun c => isCode c || c.before args0 about1) = true := by decide +kernel
theorem w_tables : (allAtoms (Jvm.Cond.code x code maxLocals ret :: tables_1)).before args0 about1 = true := by
  rw [allAtoms_all]
  show words1.all (fun c => c.before args0 about1) = true
  refine all_split ?_ w_codes
  rw [← List.take_append_drop 24 words1, List.all_append, w_t1, w_t2]
  rfl
set_option maxRecDepth 65536 in
theorem w_case : (Jvm.Cond.and given_1 narrow_1).before args0 about1 = true := by decide +kernel
theorem w_applies : (headSpec (Jvm.Cond.code x code maxLocals ret :: tables_1) room_1).applies x e0.platform about1 = true :=
  (Spec.applies_iff w_frames).mpr ⟨w_running, w_runnable, w_alone, w_named, w_hears, w_ripe, w_room, w_tables⟩
theorem atStart : AtStart classFile x code maxLocals ret World_1 tables_1 room_1 Calls_1 rest_1 Pre_1 launch0 p0 e0 about1 theMethod args0 below0 :=
  ⟨lists_1, trivial, launch0.admits_env _ _ _, launch0.least_env, fairChoices_fair.cas, fairChoices_fair.clock, w_frames, w_args, w_heap, w_applies, trivial, trivial, w_case⟩
end start1
theorem witness_1 : WitnessClaimed_1 := ⟨start1.p0, start1.e0, start1.about1, start1.theMethod, start1.args0, start1.below0, start1.atStart⟩
end Jvm.Pilot.@@N@@

import JvmDerived
import JvmDerived.Pilot.@@N@@Statement
import JvmDerived.Pilot.@@N@@Code
set_option linter.unusedVariables false
set_option linter.unusedSimpArgs false
namespace Jvm.Pilot.@@N@@
open Jvm Jvm.ClassFile Sem Op Lib Jvm.Free Jvm.Stand Jvm.LawKit Jvm.RoadKit Bundle Jvm.Pilot.@@N@@.Jvm.D
/-! THE LAYER own_: 'Ends': from this state the body ends as Q says; one lemma an instruction, over frames in the form mkF -/
section Own
variable {p : Program} {l : Launch} {e : Env} {R : Room} {s : State} {m : MethodId} {args : Array Value} {below : List Frame} {meth : Method} {c : Code} {T : State} {locs : List Loc} {cells slots : Nat}
variable {Q : Option Value → Heap → List Loc → Prop} {C S : Nat} {bc : ByteArray} {pc pc' : Nat} {Ls Ls' : Array Slot} {st : List Value} {Fz : Outcome → State → Prop}
def Ends (tb : Tables) (e : Env) (below : List Frame) (Fz : Outcome → State → Prop) (t : State) : Prop :=
  ∃ s₂ o, Steps tb e below t s₂ ∧ s₂.status = .running ∧ Ended s₂ below o ∧ Fz o s₂
def OwnFin (s : State) (Q : Option Value → Heap → List Loc → Prop) (C S : Nat) (o : Outcome) (s₂ : State) : Prop := ∃ v L, o = .returned v ∧ Q v s₂.heap L ∧ FrameEnd s o s₂ L C S
theorem Ends.of {tb : Tables} {t t' : State} (st : ∀ target, Steps tb e below t' target → Steps tb e below t target) (k : Ends tb e below Fz t') : Ends tb e below Fz t := by
  obtain ⟨s₂, o, h1, h2⟩ := k
  exact ⟨s₂, o, st _ h1, h2⟩
theorem Ends.tr {tb : Tables} {t t' : State} (st : Steps tb e below t t') (k : Ends tb e below Fz t') : Ends tb e below Fz t := Ends.of (fun _ q => st.trans q) k
theorem own_iloadN (X : Stand p l e R s m args below meth c T locs cells slots) (hx : p.tables.exec = Jvm.exec) (hby : c.code = bc) {k : Fin 4} {v : Int32} (hd : decode bc pc = .ok (.iload_n k, 1)) (hp : pc + 1 = pc') (hl : Ls[k.val]? = some (.val (.int v)))
    (kt : Ends p.tables e below Fz (T.setTop (mkF m pc' Ls (.int v :: st)))) : Ends p.tables e below Fz (T.setTop (mkF m pc Ls st)) := by
  subst hp; exact Ends.of (fun _ q => XS.iloadN X.here hx rfl (hb hby hd) hl q) kt
theorem own_aloadN (X : Stand p l e R s m args below meth c T locs cells slots) (hx : p.tables.exec = Jvm.exec) (hby : c.code = bc) {k : Fin 4} {v : Value} (hd : decode bc pc = .ok (.aload_n k, 1)) (hp : pc + 1 = pc') (hl : Ls[k.val]? = some (.val v)) (hv : v.isRef = true)
    (kt : Ends p.tables e below Fz (T.setTop (mkF m pc' Ls (v :: st)))) : Ends p.tables e below Fz (T.setTop (mkF m pc Ls st)) := by
  subst hp; exact Ends.of (fun _ q => XS.aloadN X.here hx rfl (hb hby hd) hl hv q) kt
theorem own_aload (X : Stand p l e R s m args below meth c T locs cells slots) (hx : p.tables.exec = Jvm.exec) (hby : c.code = bc) {k : Nat} {v : Value} (hd : decode bc pc = .ok (.aload k, 2)) (hp : pc + 2 = pc') (hl : Ls[k]? = some (.val v)) (hv : v.isRef = true)
    (kt : Ends p.tables e below Fz (T.setTop (mkF m pc' Ls (v :: st)))) : Ends p.tables e below Fz (T.setTop (mkF m pc Ls st)) := by
  subst hp; exact Ends.of (fun _ q => XS.aload X.here hx rfl (hb hby hd) hl hv q) kt
theorem own_istoreN (X : Stand p l e R s m args below meth c T locs cells slots) (hx : p.tables.exec = Jvm.exec) (hby : c.code = bc) {k : Fin 4} {v : Int32} (hd : decode bc pc = .ok (.istore_n k, 1)) (hp : pc + 1 = pc') (Ls' : Array Slot) (hl : storeLocals Ls k.val (.int v) = some Ls')
    (kt : Ends p.tables e below Fz (T.setTop (mkF m pc' Ls' st))) : Ends p.tables e below Fz (T.setTop (mkF m pc Ls (.int v :: st))) := by
  subst hp; exact Ends.of (fun _ q => XS.istoreN X.here hx rfl (hb hby hd) rfl hl q) kt
theorem own_astore (X : Stand p l e R s m args below meth c T locs cells slots) (hx : p.tables.exec = Jvm.exec) (hby : c.code = bc) {k : Nat} {v : Value} (hd : decode bc pc = .ok (.astore k, 2)) (hp : pc + 2 = pc') (Ls' : Array Slot) (hv : v.isRef = true) (hl : storeLocals Ls k v = some Ls')
    (kt : Ends p.tables e below Fz (T.setTop (mkF m pc' Ls' st))) : Ends p.tables e below Fz (T.setTop (mkF m pc Ls (v :: st))) := by
  subst hp; exact Ends.of (fun _ q => XS.astore X.here hx rfl (hb hby hd) rfl hv hl q) kt
theorem own_iconst (X : Stand p l e R s m args below meth c T locs cells slots) (hx : p.tables.exec = Jvm.exec) (hby : c.code = bc) {i : Int} (hd : decode bc pc = .ok (.iconst i, 1)) (hp : pc + 1 = pc') (v : Int32) (hv : Int32.ofInt i = v)
    (kt : Ends p.tables e below Fz (T.setTop (mkF m pc' Ls (.int v :: st)))) : Ends p.tables e below Fz (T.setTop (mkF m pc Ls st)) := by
  subst hp; exact Ends.of (fun _ q => by subst hv; exact XS.iconst X.here hx rfl (hb hby hd) q) kt
theorem own_iand (X : Stand p l e R s m args below meth c T locs cells slots) (hx : p.tables.exec = Jvm.exec) (hby : c.code = bc) {x y : Int32} (hd : decode bc pc = .ok (.iand, 1)) (hp : pc + 1 = pc')
    (kt : Ends p.tables e below Fz (T.setTop (mkF m pc' Ls (.int (x &&& y) :: st)))) : Ends p.tables e below Fz (T.setTop (mkF m pc Ls (.int y :: .int x :: st))) := by
  subst hp; exact Ends.of (fun _ q => XS.iand X.here hx rfl (hb hby hd) rfl q) kt
theorem own_irem (X : Stand p l e R s m args below meth c T locs cells slots) (hx : p.tables.exec = Jvm.exec) (hby : c.code = bc) {x y : Int32} (hd : decode bc pc = .ok (.irem, 1)) (hp : pc + 1 = pc') (hy : y ≠ 0)
    (kt : Ends p.tables e below Fz (T.setTop (mkF m pc' Ls (.int (x % y) :: st)))) : Ends p.tables e below Fz (T.setTop (mkF m pc Ls (.int y :: .int x :: st))) := by
  subst hp; exact Ends.of (fun _ q => iremM X hx rfl (hb hby hd) rfl hy q) kt
theorem own_goto (X : Stand p l e R s m args below meth c T locs cells slots) (hx : p.tables.exec = Jvm.exec) (hby : c.code = bc) {o : Int} (hd : decode bc pc = .ok (.goto o, 3)) (hp : (pc : Int) + o = (pc' : Int)) (kt : Ends p.tables e below Fz (T.setTop (mkF m pc' Ls st))) : Ends p.tables e below Fz (T.setTop (mkF m pc Ls st)) :=
  Ends.of (fun _ q => XS.goto X.here hx rfl (pc0 := pc) (pc' := pc') rfl (hb hby hd) (by rw [hp]; exact Int.natCast_nonneg _) (by rw [hp]; rfl) q) kt
theorem own_icmp_ne (X : Stand p l e R s m args below meth c T locs cells slots) (hx : p.tables.exec = Jvm.exec) (hby : c.code = bc) {x y : Int32} {o : Int} {pcY pcN : Nat} (hd : decode bc pc = .ok (.if_icmp .ne o, 3)) (hpY : (pc : Int) + o = (pcY : Int)) (hpN : pc + 3 = pcN) (kY : ¬ x = y → Ends p.tables e below Fz (T.setTop (mkF m pcY Ls st))) (kN : x = y → Ends p.tables e below Fz (T.setTop (mkF m pcN Ls st))) : Ends p.tables e below Fz (T.setTop (mkF m pc Ls (.int y :: .int x :: st))) := by
  subst hpN; by_cases h : x = y
  · exact Ends.of (fun _ q => XS.icmpNo X.here hx rfl (hb hby hd) rfl (Jvm.Free.XT.ii_ne_f h) q) (kN h)
  · exact Ends.of (fun _ q => XS.icmpYes X.here hx rfl (pc0 := pc) (pc' := pcY) rfl (hb hby hd) rfl (Jvm.Free.XT.ii_ne_t h) (by rw [hpY]; exact Int.natCast_nonneg _) (by rw [hpY]; rfl) q) (kY h)
theorem own_icmp_gt (X : Stand p l e R s m args below meth c T locs cells slots) (hx : p.tables.exec = Jvm.exec) (hby : c.code = bc) {x y : Int32} {o : Int} {pcY pcN : Nat} (hd : decode bc pc = .ok (.if_icmp .gt o, 3)) (hpY : (pc : Int) + o = (pcY : Int)) (hpN : pc + 3 = pcN) (kY : y.toInt < x.toInt → Ends p.tables e below Fz (T.setTop (mkF m pcY Ls st))) (kN : x.toInt ≤ y.toInt → Ends p.tables e below Fz (T.setTop (mkF m pcN Ls st))) : Ends p.tables e below Fz (T.setTop (mkF m pc Ls (.int y :: .int x :: st))) := by
  subst hpN; by_cases h : y < x
  · exact Ends.of (fun _ q => XS.icmpYes X.here hx rfl (pc0 := pc) (pc' := pcY) rfl (hb hby hd) rfl (Jvm.Free.XT.ii_gt_t h) (by rw [hpY]; exact Int.natCast_nonneg _) (by rw [hpY]; rfl) q) (kY (Int32.lt_iff_toInt_lt.mp h))
  · exact Ends.of (fun _ q => XS.icmpNo X.here hx rfl (hb hby hd) rfl (Jvm.Free.XT.ii_gt_f h) q) (kN (Int.not_lt.mp fun q => h (Int32.lt_iff_toInt_lt.mpr q)))
theorem own_if_ne (X : Stand p l e R s m args below meth c T locs cells slots) (hx : p.tables.exec = Jvm.exec) (hby : c.code = bc) {x : Int32} {o : Int} {pcY pcN : Nat} (hd : decode bc pc = .ok (.ifCond .ne o, 3)) (hpY : (pc : Int) + o = (pcY : Int)) (hpN : pc + 3 = pcN) (kY : ¬ x = 0 → Ends p.tables e below Fz (T.setTop (mkF m pcY Ls st))) (kN : x = 0 → Ends p.tables e below Fz (T.setTop (mkF m pcN Ls st))) : Ends p.tables e below Fz (T.setTop (mkF m pc Ls (.int x :: st))) := by
  subst hpN; by_cases h : x = (0 : Int32)
  · exact Ends.of (fun _ q => XS.ifNo X.here hx rfl (hb hby hd) rfl (Jvm.Free.XT.i0_ne_f h) q) (kN h)
  · exact Ends.of (fun _ q => XS.ifYes X.here hx rfl (pc0 := pc) (pc' := pcY) rfl (hb hby hd) rfl (Jvm.Free.XT.i0_ne_t h) (by rw [hpY]; exact Int.natCast_nonneg _) (by rw [hpY]; rfl) q) (kY h)
theorem own_acmp_eq (X : Stand p l e R s m args below meth c T locs cells slots) (hx : p.tables.exec = Jvm.exec) (hby : c.code = bc) {x y : Value} {o : Int} {pcY pcN : Nat} (hd : decode bc pc = .ok (.if_acmp .eq o, 3)) (hpY : (pc : Int) + o = (pcY : Int)) (hpN : pc + 3 = pcN) (h1 : x.isRef = true) (h2 : y.isRef = true) (kY : x = y → Ends p.tables e below Fz (T.setTop (mkF m pcY Ls st))) (kN : ¬ x = y → Ends p.tables e below Fz (T.setTop (mkF m pcN Ls st))) : Ends p.tables e below Fz (T.setTop (mkF m pc Ls (y :: x :: st))) := by
  subst hpN; by_cases h : x = y
  · exact Ends.of (fun _ q => Jvm.RoadKit.acmp (g := mkF m pc Ls (y :: x :: st)) X hx rfl h1 h2 (pc0 := pc) (same := true) rfl (hb hby hd) rfl (decide_eq_true h) (by rw [hpY]; exact Int.natCast_nonneg _) rfl (by simpa [acV, hpY] using q)) (kY h)
  · exact Ends.of (fun _ q => Jvm.RoadKit.acmp (g := mkF m pc Ls (y :: x :: st)) X hx rfl h1 h2 (pc0 := pc) (same := false) rfl (hb hby hd) rfl (decide_eq_false h) (by rw [hpY]; exact Int.natCast_nonneg _) rfl (by simpa [acV] using q)) (kN h)
theorem own_acmp_ne (X : Stand p l e R s m args below meth c T locs cells slots) (hx : p.tables.exec = Jvm.exec) (hby : c.code = bc) {x y : Value} {o : Int} {pcY pcN : Nat} (hd : decode bc pc = .ok (.if_acmp .ne o, 3)) (hpY : (pc : Int) + o = (pcY : Int)) (hpN : pc + 3 = pcN) (h1 : x.isRef = true) (h2 : y.isRef = true) (kY : ¬ x = y → Ends p.tables e below Fz (T.setTop (mkF m pcY Ls st))) (kN : x = y → Ends p.tables e below Fz (T.setTop (mkF m pcN Ls st))) : Ends p.tables e below Fz (T.setTop (mkF m pc Ls (y :: x :: st))) := by
  subst hpN; by_cases h : x = y
  · exact Ends.of (fun _ q => Jvm.RoadKit.acmp (g := mkF m pc Ls (y :: x :: st)) X hx rfl h1 h2 (pc0 := pc) (same := true) rfl (hb hby hd) rfl (decide_eq_true h) (by rw [hpY]; exact Int.natCast_nonneg _) rfl (by simpa [acV] using q)) (kN h)
  · exact Ends.of (fun _ q => Jvm.RoadKit.acmp (g := mkF m pc Ls (y :: x :: st)) X hx rfl h1 h2 (pc0 := pc) (same := false) rfl (hb hby hd) rfl (decide_eq_false h) (by rw [hpY]; exact Int.natCast_nonneg _) rfl (by simpa [acV, hpY] using q)) (kY h)
theorem own_ret (X : Stand p l e R s m args below meth c T locs cells slots) (hx : p.tables.exec = Jvm.exec) (hby : c.code = bc) {v : Value} {t : FieldType} {i : Instr} (hret : meth.sig.returnType = some t) (hk : meth.locks = false) (hd : decode bc pc = .ok (i, 1)) (v' : Value) (hn : narrow t v = v')
    (hi : (i = .ireturn ∧ (t = .int ∨ t = .boolean ∨ t = .byte ∨ t = .char ∨ t = .short) ∧ ∃ z, v = .int z) ∨ (i = .lreturn ∧ t = .long ∧ ∃ z, v = .long z) ∨ (i = .areturn ∧ t.isReference = true ∧ v.isRef = true))
    (hC : cells ≤ C) (hS : slots ≤ S) (q : Q (some v') T.heap locs) : Ends p.tables e below (OwnFin s Q C S) (T.setTop (mkF m pc Ls (v :: st))) := by
  obtain ⟨fs, hr, hrun, hended, hW, hsame⟩ := X.leave (v := some v') (fun h => by rw [hret] at h; cases h) hk
  refine ⟨_, _, ?_, hrun, hended, _, _, rfl, q, ⟨_, rfl⟩, hW, hsame.mono hC hS⟩
  have hm' : T.vm.method? m = some meth := X.method'
  show Steps p.tables e below (T.setTop { method := m, pc := pc, locals := Ls, stack := v :: st, locked := none }) _
  have hd' := hb hby hd
  rcases hi with ⟨rfl, ht, z, rfl⟩ | ⟨rfl, rfl, z, rfl⟩ | ⟨rfl, ht, hv⟩
  · rcases ht with rfl | rfl | rfl | rfl | rfl <;> (jvm_step X.here [X.here.top, hx, hd', hm', hret, hn]; first | (intro acts; rw [hr _ acts rfl rfl rfl]) | rw [hr _ _ rfl rfl rfl]) <;> exact Steps.refl _
  · have hn2 : Value.long z = v' := hn
    subst hn2
    jvm_step X.here [X.here.top, hx, hd', hm', hret, hn]
    first | (intro acts; rw [hr _ acts rfl rfl rfl]) | rw [hr _ _ rfl rfl rfl]
    exact Steps.refl _
  · have hn2 : v = v' := by rw [← hn]; rcases ref_cases hv with rfl | ⟨z, rfl⟩ <;> cases t <;> rfl
    subst hn2
    jvm_step X.here [X.here.top, hx, hd', hm', hret, hn, ht, hv]
    first | (intro acts; rw [hr _ acts rfl rfl rfl]) | rw [hr _ _ rfl rfl rfl]
    exact Steps.refl _
end Own
section OwnH
variable {p : Program} {l : Launch} {e : Env} {R : Room} {s : State} {m : MethodId} {args : Array Value} {below : List Frame} {meth : Method} {c : Code} {T : State} {locs : List Loc} {cells slots : Nat}
variable {Fz : Outcome → State → Prop} {bc : ByteArray} {pc pc' : Nat} {Ls Ls' : Array Slot} {st : List Value}
variable {Z : State} {a0 : Array Value} {h h0 : Heap} {n0 : Nat}
abbrev OwnMet (l : Launch) (Z : State) (y : MethodName) (bytes : ByteArray) (maxL : Nat) (rt : Option FieldType) (ws : List Jvm.Cond) (rm : Room) (as' : Array Value) (h0 : Heap) (Qc : Option Value → Heap → List Loc → Prop) : Prop :=
  MetFree l y (head1 (Jvm.Cond.code y bytes maxL rt :: ws) rm) (fun a U => a = as' ∧ Z.Warmed39 U.vm ∧ U.heap = h0) (fun _ _ _ _ _ => True) (fun _ U o U' => ∃ v L, o = .returned v ∧ Qc v U'.heap L ∧ FrameEnd U o U' L rm.cells rm.slots)
theorem own_body {y : MethodName} {bytes : ByteArray} {maxL : Nat} {rt : Option FieldType} {ws : List Jvm.Cond} {rm : Room} {as' : Array Value} {Qc : Option Value → Heap → List Loc → Prop} {Ls0 : Array Slot} (hpl : plainFor y = true) (hef : ∀ m : MethodId, entryFrame m as' maxL = mkF m 0 Ls0 [])
    (body : ∀ (p : Program) (e : Env) (s : State) (m : MethodId) (below : List Frame) (meth : Method) (c : Code) (s₁ : State), Stand p l e rm s m as' below meth c s₁ [] 0 0 → p.tables.exec = Jvm.exec → c.code = bytes → c.maxLocals = maxL → s.vm.findClass y.cls = some m.cls → meth.name = y.name → meth.sig.returnType = rt → meth.locks = false → Z.Warmed39 s.vm → s₁.heap = h0 → Ends p.tables e below (OwnFin s Qc rm.cells rm.slots) (s₁.setTop (mkF m 0 Ls0 []))) :
    OwnMet l Z y bytes maxL rt ws rm as' h0 Qc := by
  refine MetFree.of_bodySF hpl hisR ?_
  intro p e s m args below meth c s₁ Bd hml0 hP hK
  obtain ⟨rfl, hZ, hh⟩ := hP
  have e0 : s₁.heap = h0 := by rw [← hh, Bd.state]; rfl
  rw [hef]
  exact body p e s m below meth c s₁ (Stand.of_body Bd) Bd.exec Bd.bytes hml0 (findClass_of_methodNamed Bd.named) (name_of_methodNamed Bd.named Bd.method).1 Bd.returns Bd.notSynchronized hZ e0
theorem own_static (X : Stand p l e R s m args below meth c T locs cells slots) (hx : p.tables.exec = Jvm.exec) (hby : c.code = bc) (hZ : Z.Warmed39 s.vm) {own : String} {index : Nat} {y : MethodName} {bytes : ByteArray} {maxL : Nat} {rt r : Option FieldType} {ps : List FieldType} {rm : Room} {argsL rest : List Value} {Qc : Option Value → Heap → List Loc → Prop} {W : Nat}
    (hown : s.vm.findClass own = some m.cls) (w1 : (Jvm.Cond.methodLink own index y).before a0 Z = true) (w2 : (Jvm.Cond.static y).before a0 Z = true) (w3 : (Jvm.Cond.initialized y.cls).before a0 Z = true) (w4 : (Jvm.Cond.code y bytes maxL rt).before a0 Z = true) (hy : y.cls ≠ "java/lang/invoke/MethodHandle" ∧ y.cls ≠ "java/lang/invoke/VarHandle")
    (hM : OwnMet l Z y bytes maxL rt [] rm argsL.toArray h Qc) (eT : T.heap = h) (hml : Ls.size = c.maxLocals) (hlen : parseMethodDescriptor y.desc = some ⟨ps, r⟩) (hl : argsL.length = ps.length) (hf : rm.frames + 1 ≤ R.frames) (hW : (rest.map fun v => v.category).sum ≤ W) (hlo : W + (maxL + 11) + rm.locals ≤ R.locals) (hc : cells + rm.cells ≤ R.cells) (hs : slots + rm.slots ≤ R.slots)
    (hd : decode bc pc = .ok (.invokestatic index, 3)) (hp : pc + 3 = pc') (hst : st = argsL.reverse ++ rest)
    (kt : ∀ v T' L, Stand p l e R s m args below meth c T' (locs ++ L) (cells + rm.cells) (slots + rm.slots) → Qc v T'.heap L → Ends p.tables e below Fz (T'.setTop (mkF m pc' Ls (v.toList ++ rest)))) : Ends p.tables e below Fz (T.setTop (mkF m pc Ls st)) := by
  subst hp hst
  obtain ⟨v, vm₁, ⟨T', L', k', n'⟩, -, X', ⟨Lc, hQ, l', y', z'⟩, st⟩ := Jvm.LawKit.callS X hx (y := y) hown (mvT hZ w1) (mvT hZ w2) (mvT hZ w3) (mvT hZ w4) hy (backOf (W := W) hM hZ w4 w3 hf hlo) (g := mkF m pc Ls (argsL.reverse ++ rest)) rfl hml (argsL := argsL) (rest := rest) (lenOf hlen hl) rfl (by show 2 * 0 + _ ≤ _; omega) (hb hby hd) (fun _ _ => ⟨rfl, eT, hc, hs⟩)
  dsimp only [Pt.U, Pt.locs, Pt.cells, Pt.slots] at X' l' y' z' st hQ
  subst l' y' z'
  exact Ends.of st (kt v T' Lc X' hQ)
theorem own_virtual (X : Stand p l e R s m args below meth c T locs cells slots) (hx : p.tables.exec = Jvm.exec) (hby : c.code = bc) (hZ : Z.Warmed39 s.vm) {own Cn : String} {index : Nat} {y : MethodName} {bytes : ByteArray} {maxL : Nat} {rt r : Option FieldType} {ps : List FieldType} {rm : Room} {a : Addr} {argsL rest : List Value} {Qc : Option Value → Heap → List Loc → Prop} {W : Nat}
    (hown : s.vm.findClass own = some m.cls) (w1 : (Jvm.Cond.methodLink own index y).before a0 Z = true) (wd : (Jvm.Cond.declares y).before a0 Z = true) (ws : (Jvm.Cond.selects Cn y y).before a0 Z = true) (w2 : (Jvm.Cond.instanceMethod y).before a0 Z = true) (w3 : (Jvm.Cond.initialized y.cls).before a0 Z = true) (w4 : (Jvm.Cond.code y bytes maxL rt).before a0 Z = true) (hy : y.cls ≠ "java/lang/invoke/MethodHandle" ∧ y.cls ≠ "java/lang/invoke/VarHandle")
    (hM : OwnMet l Z y bytes maxL rt [] rm (Value.ref a :: argsL).toArray h Qc) (E : Exa Z h a Cn) (eT : T.heap = h) (hml : Ls.size = c.maxLocals) (hlen : parseMethodDescriptor y.desc = some ⟨ps, r⟩) (hl : argsL.length = ps.length) (hf : rm.frames + 1 ≤ R.frames) (hW : (rest.map fun v => v.category).sum ≤ W) (hlo : W + (maxL + 11) + rm.locals ≤ R.locals) (hc : cells + rm.cells ≤ R.cells) (hs : slots + rm.slots ≤ R.slots)
    (hd : decode bc pc = .ok (.invokevirtual index, 3)) (hp : pc + 3 = pc') (hst : st = argsL.reverse ++ Value.ref a :: rest)
    (kt : ∀ v T' L, Stand p l e R s m args below meth c T' (locs ++ L) (cells + rm.cells) (slots + rm.slots) → Qc v T'.heap L → Ends p.tables e below Fz (T'.setTop (mkF m pc' Ls (v.toList ++ rest)))) : Ends p.tables e below Fz (T.setTop (mkF m pc Ls st)) := by
  subst hp hst
  obtain ⟨cq, kq, qa, qb, qc⟩ := isOf hZ eT E
  obtain ⟨v, vm₁, ⟨T', L', k', n'⟩, -, X', ⟨Lc, hQ, l', y', z'⟩, st⟩ := X.virtualBack hx (y := y) (z := y) hown (mvT hZ w1) (mvT hZ wd) (notFace_of_selects (args := #[]) (mvT hZ ws)) (mvT hZ ws) (mvT hZ w2) hy (backOf (W := W) hM hZ w4 w3 hf hlo) qa qc (g := mkF m pc Ls (argsL.reverse ++ Value.ref a :: rest)) rfl hml (Steps.refl _) (argsL := argsL) (rest := rest) (lenOf hlen hl) rfl (by show 2 * 0 + _ ≤ _; omega) (hb hby hd) (fun _ _ => ⟨rfl, eT, hc, hs⟩)
  dsimp only [Pt.U, Pt.locs, Pt.cells, Pt.slots] at X' l' y' z' st hQ
  subst l' y' z'
  exact Ends.tr st (kt v T' Lc X' hQ)
theorem own_getstatic (X : Stand p l e R s m args below meth c T locs cells slots) (hx : p.tables.exec = Jvm.exec) (hby : c.code = bc) (hZ : Z.Warmed39 s.vm) {own R0 O n d host : String} {index : Nat} {v : Value}
    (hown : s.vm.findClass own = some m.cls) (w : (Jvm.Cond.fieldLink own index R0 n d).before a0 Z = true ∨ (Jvm.Cond.fieldLinkNest own index R0 n d host).before a0 Z = true) (via : Via Z R0 O n d) (eT : T.heap = h) (F : Sta Z h O n d v)
    (hd : decode bc pc = .ok (.getstatic index, 3)) (hp : pc + 3 = pc')
    (kt : ∀ T', Stand p l e R s m args below meth c T' locs cells slots → T'.heap = h → Ends p.tables e below Fz (T'.setTop (mkF m pc' Ls (v :: st)))) : Ends p.tables e below Fz (T.setTop (mkF m pc Ls st)) := by
  subst hp
  obtain ⟨T', X', e', st⟩ := getS2 X hx hZ hown w via eT F (g := mkF m pc Ls st) rfl (hb hby hd)
  exact Ends.of st (kt T' X' e')
theorem own_ldcI (X : Stand p l e R s m args below meth c T locs cells slots) (hx : p.tables.exec = Jvm.exec) (hby : c.code = bc) (hZ : Z.Warmed39 s.vm) {own : String} {index : Nat} {v : Int32}
    (hown : s.vm.findClass own = some m.cls) (w : (Jvm.Cond.constant own index v).before a0 Z = true) (hd : decode bc pc = .ok (.ldc index, 2)) (hp : pc + 2 = pc')
    (kt : Ends p.tables e below Fz (T.setTop (mkF m pc' Ls (.int v :: st)))) : Ends p.tables e below Fz (T.setTop (mkF m pc Ls st)) := by
  subst hp; exact Ends.of (X.ldcInt hx hown (mvT hZ w) (g := mkF m pc Ls st) rfl (hb hby hd)) kt
end OwnH

def OwnG (Z : State) (a_FALSE a_TRUE a_UNKNOWN : Addr) : Prop := (Sta Z Z.heap "com/example/latticework/latticework/core/Truth" "FALSE" "Lcom/example/latticework/latticework/core/Truth;" (.ref a_FALSE)) ∧ (Exa Z Z.heap a_FALSE "com/example/latticework/latticework/core/Truth") ∧ (Sta Z Z.heap "com/example/latticework/latticework/core/Truth" "TRUE" "Lcom/example/latticework/latticework/core/Truth;" (.ref a_TRUE)) ∧ (Exa Z Z.heap a_TRUE "com/example/latticework/latticework/core/Truth") ∧ (Sta Z Z.heap "com/example/latticework/latticework/core/Truth" "UNKNOWN" "Lcom/example/latticework/latticework/core/Truth;" (.ref a_UNKNOWN)) ∧ (Exa Z Z.heap a_UNKNOWN "com/example/latticework/latticework/core/Truth") ∧ (Fld Z Z.heap a_TRUE "java/lang/Enum" "ordinal" "I" (.int (0 : Int32))) ∧ (Fld Z Z.heap a_FALSE "java/lang/Enum" "ordinal" "I" (.int (1 : Int32))) ∧ (Fld Z Z.heap a_UNKNOWN "java/lang/Enum" "ordinal" "I" (.int (2 : Int32)))
theorem g_S_FALSE {Z : State} {a_FALSE a_TRUE a_UNKNOWN : Addr} (G : OwnG Z a_FALSE a_TRUE a_UNKNOWN) : Sta Z Z.heap "com/example/latticework/latticework/core/Truth" "FALSE" "Lcom/example/latticework/latticework/core/Truth;" (.ref a_FALSE) := G.1
theorem g_E_FALSE {Z : State} {a_FALSE a_TRUE a_UNKNOWN : Addr} (G : OwnG Z a_FALSE a_TRUE a_UNKNOWN) : Exa Z Z.heap a_FALSE "com/example/latticework/latticework/core/Truth" := G.2.1
theorem g_S_TRUE {Z : State} {a_FALSE a_TRUE a_UNKNOWN : Addr} (G : OwnG Z a_FALSE a_TRUE a_UNKNOWN) : Sta Z Z.heap "com/example/latticework/latticework/core/Truth" "TRUE" "Lcom/example/latticework/latticework/core/Truth;" (.ref a_TRUE) := G.2.2.1
theorem g_E_TRUE {Z : State} {a_FALSE a_TRUE a_UNKNOWN : Addr} (G : OwnG Z a_FALSE a_TRUE a_UNKNOWN) : Exa Z Z.heap a_TRUE "com/example/latticework/latticework/core/Truth" := G.2.2.2.1
theorem g_S_UNKNOWN {Z : State} {a_FALSE a_TRUE a_UNKNOWN : Addr} (G : OwnG Z a_FALSE a_TRUE a_UNKNOWN) : Sta Z Z.heap "com/example/latticework/latticework/core/Truth" "UNKNOWN" "Lcom/example/latticework/latticework/core/Truth;" (.ref a_UNKNOWN) := G.2.2.2.2.1
theorem g_E_UNKNOWN {Z : State} {a_FALSE a_TRUE a_UNKNOWN : Addr} (G : OwnG Z a_FALSE a_TRUE a_UNKNOWN) : Exa Z Z.heap a_UNKNOWN "com/example/latticework/latticework/core/Truth" := G.2.2.2.2.2.1
theorem g_F_TRUE_ordinal {Z : State} {a_FALSE a_TRUE a_UNKNOWN : Addr} (G : OwnG Z a_FALSE a_TRUE a_UNKNOWN) : Fld Z Z.heap a_TRUE "java/lang/Enum" "ordinal" "I" (.int (0 : Int32)) := G.2.2.2.2.2.2.1
theorem g_F_FALSE_ordinal {Z : State} {a_FALSE a_TRUE a_UNKNOWN : Addr} (G : OwnG Z a_FALSE a_TRUE a_UNKNOWN) : Fld Z Z.heap a_FALSE "java/lang/Enum" "ordinal" "I" (.int (1 : Int32)) := G.2.2.2.2.2.2.2.1
theorem g_F_UNKNOWN_ordinal {Z : State} {a_FALSE a_TRUE a_UNKNOWN : Addr} (G : OwnG Z a_FALSE a_TRUE a_UNKNOWN) : Fld Z Z.heap a_UNKNOWN "java/lang/Enum" "ordinal" "I" (.int (2 : Int32)) := G.2.2.2.2.2.2.2.2

def own_pk (k : Int32) (aF aT aU : Addr) : Addr := if k = 0 then aF else if k = 1 then aU else aT
def own_and (a b aF aT aU : Addr) : Addr := if a = aF then aF else if b = aF then aF else if a = aT then (if b = aT then aT else aU) else aU
def own_min (a b : Int32) : Int32 := if b.toInt < a.toInt then b else a
theorem own_3 (a : Int32) : (a &&& (2147483647 : Int32)) % (3 : Int32) = 0 ∨ (a &&& (2147483647 : Int32)) % (3 : Int32) = 1 ∨ (a &&& (2147483647 : Int32)) % (3 : Int32) = 2 := by
  have k1 := c_mask a (2147483647 : Int32) 31 (by decide) (by decide)
  have k2 := (c_irem (a &&& (2147483647 : Int32)) (3 : Int32) 3 rfl).1 (by omega)
  have h : ((a &&& (2147483647 : Int32)) % (3 : Int32)).toInt = 0 ∨ ((a &&& (2147483647 : Int32)) % (3 : Int32)).toInt = 1 ∨ ((a &&& (2147483647 : Int32)) % (3 : Int32)).toInt = 2 := by omega
  rcases h with h | h | h
  · exact Or.inl (Int32.toInt_inj.mp h)
  · exact Or.inr (Or.inl (Int32.toInt_inj.mp h))
  · exact Or.inr (Or.inr (Int32.toInt_inj.mp h))
theorem own_law (x y : Int32) (aF aT aU : Addr) (h1 : aF ≠ aT) (h2 : aF ≠ aU) (h3 : aT ≠ aU) (hx : x = 0 ∨ x = 1 ∨ x = 2) (hy : y = 0 ∨ y = 1 ∨ y = 2) : own_and (own_pk x aF aT aU) (own_pk y aF aT aU) aF aT aU = own_pk (own_min x y) aF aT aU := by
  have e0 : own_pk 0 aF aT aU = aF := rfl
  have e1 : own_pk 1 aF aT aU = aU := rfl
  have e2 : own_pk 2 aF aT aU = aT := rfl
  have m00 : own_min 0 0 = 0 := rfl
  have m01 : own_min 0 1 = 0 := rfl
  have m02 : own_min 0 2 = 0 := rfl
  have m10 : own_min 1 0 = 0 := rfl
  have m11 : own_min 1 1 = 1 := rfl
  have m12 : own_min 1 2 = 1 := rfl
  have m20 : own_min 2 0 = 0 := rfl
  have m21 : own_min 2 1 = 1 := rfl
  have m22 : own_min 2 2 = 2 := rfl
  rcases hx with rfl | rfl | rfl <;> rcases hy with rfl | rfl | rfl <;> simp only [e0, e1, e2, m00, m01, m02, m10, m11, m12, m20, m21, m22, own_and] <;> simp [h1, h2, h3, Ne.symm h1, Ne.symm h2, Ne.symm h3]
theorem own_exa {Z : State} {h : Heap} {C : String} (k : Int32) {aF aT aU : Addr} (h1 : Exa Z h aF C) (h2 : Exa Z h aT C) (h3 : Exa Z h aU C) : Exa Z h (own_pk k aF aT aU) C := by
  unfold own_pk; split
  · exact h1
  · split
    · exact h3
    · exact h2
theorem tw_0 : (Jvm.Cond.constant "com/example/latticework/latticework/core/TruthAndPinLaw" (19 : Nat) (2147483647 : Int32)) ∈ tables_1 := List.mem_of_getElem? (i := 0) rfl
theorem tw_1 : (Jvm.Cond.methodLink "com/example/latticework/latticework/core/TruthAndPinLaw" (20 : Nat) ({ cls := "com/example/latticework/latticework/core/TruthAndPinLaw", name := "pick", desc := "(I)Lcom/example/latticework/latticework/core/Truth;" } : Jvm.MethodName)) ∈ tables_1 := List.mem_of_getElem? (i := 1) rfl
theorem tw_2 : (Jvm.Cond.static ({ cls := "com/example/latticework/latticework/core/TruthAndPinLaw", name := "pick", desc := "(I)Lcom/example/latticework/latticework/core/Truth;" } : Jvm.MethodName)) ∈ tables_1 := List.mem_of_getElem? (i := 2) rfl
theorem tw_3 : (Jvm.Cond.initialized "com/example/latticework/latticework/core/TruthAndPinLaw") ∈ tables_1 := List.mem_of_getElem? (i := 3) rfl
theorem tw_4 : (Jvm.Cond.code ({ cls := "com/example/latticework/latticework/core/TruthAndPinLaw", name := "pick", desc := "(I)Lcom/example/latticework/latticework/core/Truth;" } : Jvm.MethodName) method_2_code (1 : Nat) (Option.some (Jvm.ClassFile.FieldType.object "com/example/latticework/latticework/core/Truth"))) ∈ tables_1 := List.mem_of_getElem? (i := 4) rfl
theorem tw_5 : (Jvm.Cond.fieldLink "com/example/latticework/latticework/core/TruthAndPinLaw" (7 : Nat) "com/example/latticework/latticework/core/Truth" "FALSE" "Lcom/example/latticework/latticework/core/Truth;") ∈ tables_1 := List.mem_of_getElem? (i := 5) rfl
theorem tw_6 : (Jvm.Cond.initialized "com/example/latticework/latticework/core/Truth") ∈ tables_1 := List.mem_of_getElem? (i := 6) rfl
theorem tw_7 : (Jvm.Cond.laysStatic "com/example/latticework/latticework/core/Truth" "FALSE" "Lcom/example/latticework/latticework/core/Truth;") ∈ tables_1 := List.mem_of_getElem? (i := 7) rfl
theorem tw_8 : (Jvm.Cond.methodLink "com/example/latticework/latticework/core/TruthAndPinLaw" (26 : Nat) ({ cls := "com/example/latticework/latticework/core/Truth", name := "and", desc := "(Lcom/example/latticework/latticework/core/Truth;)Lcom/example/latticework/latticework/core/Truth;" } : Jvm.MethodName)) ∈ tables_1 := List.mem_of_getElem? (i := 8) rfl
theorem tw_9 : (Jvm.Cond.declares ({ cls := "com/example/latticework/latticework/core/Truth", name := "and", desc := "(Lcom/example/latticework/latticework/core/Truth;)Lcom/example/latticework/latticework/core/Truth;" } : Jvm.MethodName)) ∈ tables_1 := List.mem_of_getElem? (i := 9) rfl
theorem tw_10 : (Jvm.Cond.instanceMethod ({ cls := "com/example/latticework/latticework/core/Truth", name := "and", desc := "(Lcom/example/latticework/latticework/core/Truth;)Lcom/example/latticework/latticework/core/Truth;" } : Jvm.MethodName)) ∈ tables_1 := List.mem_of_getElem? (i := 10) rfl
theorem tw_11 : (Jvm.Cond.selects "com/example/latticework/latticework/core/Truth" ({ cls := "com/example/latticework/latticework/core/Truth", name := "and", desc := "(Lcom/example/latticework/latticework/core/Truth;)Lcom/example/latticework/latticework/core/Truth;" } : Jvm.MethodName) ({ cls := "com/example/latticework/latticework/core/Truth", name := "and", desc := "(Lcom/example/latticework/latticework/core/Truth;)Lcom/example/latticework/latticework/core/Truth;" } : Jvm.MethodName)) ∈ tables_1 := List.mem_of_getElem? (i := 11) rfl
theorem tw_12 : (Jvm.Cond.code ({ cls := "com/example/latticework/latticework/core/Truth", name := "and", desc := "(Lcom/example/latticework/latticework/core/Truth;)Lcom/example/latticework/latticework/core/Truth;" } : Jvm.MethodName) prog_55_method_6_code (2 : Nat) (Option.some (Jvm.ClassFile.FieldType.object "com/example/latticework/latticework/core/Truth"))) ∈ tables_1 := List.mem_of_getElem? (i := 12) rfl
theorem tw_13 : (Jvm.Cond.fieldLink "com/example/latticework/latticework/core/Truth" (7 : Nat) "com/example/latticework/latticework/core/Truth" "FALSE" "Lcom/example/latticework/latticework/core/Truth;") ∈ tables_1 := List.mem_of_getElem? (i := 13) rfl
theorem tw_14 : (Jvm.Cond.methodLink "com/example/latticework/latticework/core/TruthAndPinLaw" (30 : Nat) ({ cls := "java/lang/Math", name := "min", desc := "(II)I" } : Jvm.MethodName)) ∈ tables_1 := List.mem_of_getElem? (i := 14) rfl
theorem tw_15 : (Jvm.Cond.static ({ cls := "java/lang/Math", name := "min", desc := "(II)I" } : Jvm.MethodName)) ∈ tables_1 := List.mem_of_getElem? (i := 15) rfl
theorem tw_16 : (Jvm.Cond.initialized "java/lang/Math") ∈ tables_1 := List.mem_of_getElem? (i := 16) rfl
theorem tw_17 : (Jvm.Cond.code ({ cls := "java/lang/Math", name := "min", desc := "(II)I" } : Jvm.MethodName) jdk_29_method_69_code (2 : Nat) (Option.some Jvm.ClassFile.FieldType.int)) ∈ tables_1 := List.mem_of_getElem? (i := 17) rfl
theorem tw_18 : (Jvm.Cond.fieldLink "com/example/latticework/latticework/core/TruthAndPinLaw" (16 : Nat) "com/example/latticework/latticework/core/Truth" "TRUE" "Lcom/example/latticework/latticework/core/Truth;") ∈ tables_1 := List.mem_of_getElem? (i := 18) rfl
theorem tw_19 : (Jvm.Cond.laysStatic "com/example/latticework/latticework/core/Truth" "TRUE" "Lcom/example/latticework/latticework/core/Truth;") ∈ tables_1 := List.mem_of_getElem? (i := 19) rfl
theorem tw_20 : (Jvm.Cond.fieldLink "com/example/latticework/latticework/core/TruthAndPinLaw" (13 : Nat) "com/example/latticework/latticework/core/Truth" "UNKNOWN" "Lcom/example/latticework/latticework/core/Truth;") ∈ tables_1 := List.mem_of_getElem? (i := 20) rfl
theorem tw_21 : (Jvm.Cond.laysStatic "com/example/latticework/latticework/core/Truth" "UNKNOWN" "Lcom/example/latticework/latticework/core/Truth;") ∈ tables_1 := List.mem_of_getElem? (i := 21) rfl
theorem tw_22 : (Jvm.Cond.fieldLink "com/example/latticework/latticework/core/Truth" (3 : Nat) "com/example/latticework/latticework/core/Truth" "TRUE" "Lcom/example/latticework/latticework/core/Truth;") ∈ tables_1 := List.mem_of_getElem? (i := 22) rfl
theorem tw_23 : (Jvm.Cond.fieldLink "com/example/latticework/latticework/core/Truth" (10 : Nat) "com/example/latticework/latticework/core/Truth" "UNKNOWN" "Lcom/example/latticework/latticework/core/Truth;") ∈ tables_1 := List.mem_of_getElem? (i := 23) rfl
theorem d1_0 : decode method_2_code 0 = .ok (.iload_n 0, 1) := by decide +kernel
theorem d1_1 : decode method_2_code 1 = .ok (.ifCond .ne 7, 3) := by decide +kernel
theorem d1_4 : decode method_2_code 4 = .ok (.getstatic 7, 3) := by decide +kernel
theorem d1_7 : decode method_2_code 7 = .ok (.areturn, 1) := by decide +kernel
theorem d1_8 : decode method_2_code 8 = .ok (.iload_n 0, 1) := by decide +kernel
theorem d1_9 : decode method_2_code 9 = .ok (.iconst 1, 1) := by decide +kernel
theorem d1_10 : decode method_2_code 10 = .ok (.if_icmp .ne 7, 3) := by decide +kernel
theorem d1_13 : decode method_2_code 13 = .ok (.getstatic 13, 3) := by decide +kernel
theorem d1_16 : decode method_2_code 16 = .ok (.areturn, 1) := by decide +kernel
theorem d1_17 : decode method_2_code 17 = .ok (.getstatic 16, 3) := by decide +kernel
theorem d1_20 : decode method_2_code 20 = .ok (.areturn, 1) := by decide +kernel
theorem d2_0 : decode prog_55_method_6_code 0 = .ok (.aload_n 0, 1) := by decide +kernel
theorem d2_1 : decode prog_55_method_6_code 1 = .ok (.getstatic 7, 3) := by decide +kernel
theorem d2_4 : decode prog_55_method_6_code 4 = .ok (.if_acmp .eq 10, 3) := by decide +kernel
theorem d2_7 : decode prog_55_method_6_code 7 = .ok (.aload_n 1, 1) := by decide +kernel
theorem d2_8 : decode prog_55_method_6_code 8 = .ok (.getstatic 7, 3) := by decide +kernel
theorem d2_11 : decode prog_55_method_6_code 11 = .ok (.if_acmp .ne 7, 3) := by decide +kernel
theorem d2_14 : decode prog_55_method_6_code 14 = .ok (.getstatic 7, 3) := by decide +kernel
theorem d2_17 : decode prog_55_method_6_code 17 = .ok (.areturn, 1) := by decide +kernel
theorem d2_18 : decode prog_55_method_6_code 18 = .ok (.aload_n 0, 1) := by decide +kernel
theorem d2_19 : decode prog_55_method_6_code 19 = .ok (.getstatic 3, 3) := by decide +kernel
theorem d2_22 : decode prog_55_method_6_code 22 = .ok (.if_acmp .ne 16, 3) := by decide +kernel
theorem d2_25 : decode prog_55_method_6_code 25 = .ok (.aload_n 1, 1) := by decide +kernel
theorem d2_26 : decode prog_55_method_6_code 26 = .ok (.getstatic 3, 3) := by decide +kernel
theorem d2_29 : decode prog_55_method_6_code 29 = .ok (.if_acmp .ne 9, 3) := by decide +kernel
theorem d2_32 : decode prog_55_method_6_code 32 = .ok (.getstatic 3, 3) := by decide +kernel
theorem d2_35 : decode prog_55_method_6_code 35 = .ok (.goto 6, 3) := by decide +kernel
theorem d2_38 : decode prog_55_method_6_code 38 = .ok (.getstatic 10, 3) := by decide +kernel
theorem d2_41 : decode prog_55_method_6_code 41 = .ok (.areturn, 1) := by decide +kernel
theorem d3_0 : decode jdk_29_method_69_code 0 = .ok (.iload_n 0, 1) := by decide +kernel
theorem d3_1 : decode jdk_29_method_69_code 1 = .ok (.iload_n 1, 1) := by decide +kernel
theorem d3_2 : decode jdk_29_method_69_code 2 = .ok (.if_icmp .gt 7, 3) := by decide +kernel
theorem d3_5 : decode jdk_29_method_69_code 5 = .ok (.iload_n 0, 1) := by decide +kernel
theorem d3_6 : decode jdk_29_method_69_code 6 = .ok (.goto 4, 3) := by decide +kernel
theorem d3_9 : decode jdk_29_method_69_code 9 = .ok (.iload_n 1, 1) := by decide +kernel
theorem d3_10 : decode jdk_29_method_69_code 10 = .ok (.ireturn, 1) := by decide +kernel
theorem pd_0 : parseMethodDescriptor "(I)Lcom/example/latticework/latticework/core/Truth;" = some ⟨[.int], some (.object "com/example/latticework/latticework/core/Truth")⟩ := by decide +kernel
theorem pd_1 : parseMethodDescriptor "(Lcom/example/latticework/latticework/core/Truth;)Lcom/example/latticework/latticework/core/Truth;" = some ⟨[(.object "com/example/latticework/latticework/core/Truth")], some (.object "com/example/latticework/latticework/core/Truth")⟩ := by decide +kernel
theorem pd_2 : parseMethodDescriptor "(II)I" = some ⟨[.int, .int], some .int⟩ := by decide +kernel
theorem pn_0 : plainName "com/example/latticework/latticework/core/TruthAndPinLaw" = true := by first | (simp [plainName, overriddenIn]; done) | decide +kernel
theorem pn_1 : plainName "com/example/latticework/latticework/core/Truth" = true := by first | (simp [plainName, overriddenIn]; done) | decide +kernel
theorem ef_1 (m : MethodId) (x0 : Int32) : entryFrame m #[(.int x0)] 1 = mkF m 0 #[.val (.int x0)] [] := by first | (simp [entryFrame, mkF, argsToLocals, Value.category]; done) | rfl
theorem ef_2 (m : MethodId) (x0 : Addr) (x1 : Addr) : entryFrame m #[(.ref x0), (.ref x1)] 2 = mkF m 0 #[.val (.ref x0), .val (.ref x1)] [] := by first | (simp [entryFrame, mkF, argsToLocals, Value.category]; done) | rfl
theorem ef_3 (m : MethodId) (x0 : Int32) (x1 : Int32) : entryFrame m #[(.int x0), (.int x1)] 2 = mkF m 0 #[.val (.int x0), .val (.int x1)] [] := by first | (simp [entryFrame, mkF, argsToLocals, Value.category]; done) | rfl
theorem ef_0 (m : MethodId) (x0 : Int32) (x1 : Int32) : entryFrame m #[(.int x0), (.int x1)] maxLocals = mkF m 0 #[.val (.int x0), .val (.int x1), .unset, .unset, .unset, .unset, .unset] [] := by first | (simp [entryFrame, mkF, argsToLocals, Value.category, maxLocals]; done) | rfl
set_option maxRecDepth 65536 in
set_option maxHeartbeats 40000000 in
theorem rm1 (l : Launch) (Z : State) (a0 : Array Value) (hw : ∀ d ∈ tables_1, d.before a0 Z = true) (x0 : Int32) (h0 : Heap) {a_FALSE a_TRUE a_UNKNOWN : Addr} (G : OwnG Z a_FALSE a_TRUE a_UNKNOWN) (O : Ext Z.heap h0) :
    OwnMet l Z (⟨"com/example/latticework/latticework/core/TruthAndPinLaw", "pick", "(I)Lcom/example/latticework/latticework/core/Truth;"⟩ : MethodName) method_2_code 1 (some (.object "com/example/latticework/latticework/core/Truth")) [] ({ frames := 0, cells := 0, slots := 0, locals := 0 } : Room) #[(.int x0)] h0 (fun v h L => v = some (.ref (own_pk x0 a_FALSE a_TRUE a_UNKNOWN)) ∧ L = [] ∧ h = h0) := by
  refine own_body (plainFor_of_name pn_0) (fun m => ef_1 m x0) ?_
  intro p e s m below meth c s₁ X0 hx hby hml hown hnm hret hlk hZ e0
  replace hown : s.vm.findClass "com/example/latticework/latticework/core/TruthAndPinLaw" = some m.cls := hown
  replace hml : c.maxLocals = 1 := hml
  show Ends p.tables e below _ (s₁.setTop (mkF m 0 #[.val (.int x0)] []))
  refine own_iloadN X0 hx hby d1_0 rfl rfl ?_
  refine own_if_ne X0 hx hby d1_1 (pcY := 8) (pcN := 4) (by decide) rfl (fun (hc1 : ¬ x0 = (0 : Int32)) => ?_) (fun (hc1 : x0 = (0 : Int32)) => ?_)
  · -- pc 1: t
    refine own_iloadN X0 hx hby d1_8 rfl rfl ?_
    refine own_iconst X0 hx hby d1_9 rfl (1 : Int32) rfl ?_
    refine own_icmp_ne X0 hx hby d1_10 (pcY := 17) (pcN := 13) (by decide) rfl (fun (hc2 : ¬ x0 = (1 : Int32)) => ?_) (fun (hc2 : x0 = (1 : Int32)) => ?_)
    · -- pc 10: t
      refine own_getstatic X0 hx hby hZ hown (host := "") (Or.inl (hw _ tw_18)) Via.refl e0 ((g_S_TRUE G).ext O) d1_17 rfl (fun T3 X3 e3 => ?_)
      refine own_ret X3 hx hby hret hlk d1_20 (.ref a_TRUE) rfl (Or.inr (Or.inr ⟨rfl, rfl, rfl⟩)) (by decide) (by decide) ?_
      refine ⟨?_, rfl, e3⟩
      unfold own_pk; repeat' split
      all_goals first | rfl | (exfalso; simp_all; done) | simp_all
    · -- pc 10: f
      refine own_getstatic X0 hx hby hZ hown (host := "") (Or.inl (hw _ tw_20)) Via.refl e0 ((g_S_UNKNOWN G).ext O) d1_13 rfl (fun T4 X4 e4 => ?_)
      refine own_ret X4 hx hby hret hlk d1_16 (.ref a_UNKNOWN) rfl (Or.inr (Or.inr ⟨rfl, rfl, rfl⟩)) (by decide) (by decide) ?_
      refine ⟨?_, rfl, e4⟩
      unfold own_pk; repeat' split
      all_goals first | rfl | (exfalso; simp_all; done) | simp_all
  · -- pc 1: f
    refine own_getstatic X0 hx hby hZ hown (host := "") (Or.inl (hw _ tw_5)) Via.refl e0 ((g_S_FALSE G).ext O) d1_4 rfl (fun T5 X5 e5 => ?_)
    refine own_ret X5 hx hby hret hlk d1_7 (.ref a_FALSE) rfl (Or.inr (Or.inr ⟨rfl, rfl, rfl⟩)) (by decide) (by decide) ?_
    refine ⟨?_, rfl, e5⟩
    unfold own_pk; repeat' split
    all_goals first | rfl | (exfalso; simp_all; done) | simp_all
set_option maxRecDepth 65536 in
set_option maxHeartbeats 40000000 in
theorem rm2 (l : Launch) (Z : State) (a0 : Array Value) (hw : ∀ d ∈ tables_1, d.before a0 Z = true) (x0 : Addr) (x1 : Addr) (h0 : Heap) {a_FALSE a_TRUE a_UNKNOWN : Addr} (G : OwnG Z a_FALSE a_TRUE a_UNKNOWN) (O : Ext Z.heap h0) :
    OwnMet l Z (⟨"com/example/latticework/latticework/core/Truth", "and", "(Lcom/example/latticework/latticework/core/Truth;)Lcom/example/latticework/latticework/core/Truth;"⟩ : MethodName) prog_55_method_6_code 2 (some (.object "com/example/latticework/latticework/core/Truth")) [] ({ frames := 0, cells := 0, slots := 0, locals := 0 } : Room) #[(.ref x0), (.ref x1)] h0 (fun v h L => v = some (.ref (own_and x0 x1 a_FALSE a_TRUE a_UNKNOWN)) ∧ L = [] ∧ h = h0) := by
  refine own_body (plainFor_of_name pn_1) (fun m => ef_2 m x0 x1) ?_
  intro p e s m below meth c s₁ X0 hx hby hml hown hnm hret hlk hZ e0
  replace hown : s.vm.findClass "com/example/latticework/latticework/core/Truth" = some m.cls := hown
  replace hml : c.maxLocals = 2 := hml
  show Ends p.tables e below _ (s₁.setTop (mkF m 0 #[.val (.ref x0), .val (.ref x1)] []))
  refine own_aloadN X0 hx hby d2_0 rfl rfl rfl ?_
  refine own_getstatic X0 hx hby hZ hown (host := "") (Or.inl (hw _ tw_13)) Via.refl e0 ((g_S_FALSE G).ext O) d2_1 rfl (fun T6 X6 e6 => ?_)
  refine own_acmp_eq X6 hx hby d2_4 (pcY := 14) (pcN := 7) (by decide) rfl rfl rfl (fun (hc7 : ((.ref x0) : Value) = (.ref a_FALSE)) => ?_) (fun (hc7 : ¬ ((.ref x0) : Value) = (.ref a_FALSE)) => ?_)
  · -- pc 4: t
    simp only [Value.ref.injEq] at hc7
    refine own_getstatic X6 hx hby hZ hown (host := "") (Or.inl (hw _ tw_13)) Via.refl e6 ((g_S_FALSE G).ext O) d2_14 rfl (fun T8 X8 e8 => ?_)
    refine own_ret X8 hx hby hret hlk d2_17 (.ref a_FALSE) rfl (Or.inr (Or.inr ⟨rfl, rfl, rfl⟩)) (by decide) (by decide) ?_
    refine ⟨?_, rfl, e8⟩
    unfold own_and; repeat' split
    all_goals first | rfl | (exfalso; simp_all; done) | simp_all
  · -- pc 4: f
    simp only [Value.ref.injEq] at hc7
    refine own_aloadN X6 hx hby d2_7 rfl rfl rfl ?_
    refine own_getstatic X6 hx hby hZ hown (host := "") (Or.inl (hw _ tw_13)) Via.refl e6 ((g_S_FALSE G).ext O) d2_8 rfl (fun T9 X9 e9 => ?_)
    refine own_acmp_ne X9 hx hby d2_11 (pcY := 18) (pcN := 14) (by decide) rfl rfl rfl (fun (hc10 : ¬ ((.ref x1) : Value) = (.ref a_FALSE)) => ?_) (fun (hc10 : ((.ref x1) : Value) = (.ref a_FALSE)) => ?_)
    · -- pc 11: t
      simp only [Value.ref.injEq] at hc10
      refine own_aloadN X9 hx hby d2_18 rfl rfl rfl ?_
      refine own_getstatic X9 hx hby hZ hown (host := "") (Or.inl (hw _ tw_22)) Via.refl e9 ((g_S_TRUE G).ext O) d2_19 rfl (fun T11 X11 e11 => ?_)
      refine own_acmp_ne X11 hx hby d2_22 (pcY := 38) (pcN := 25) (by decide) rfl rfl rfl (fun (hc12 : ¬ ((.ref x0) : Value) = (.ref a_TRUE)) => ?_) (fun (hc12 : ((.ref x0) : Value) = (.ref a_TRUE)) => ?_)
      · -- pc 22: t
        simp only [Value.ref.injEq] at hc12
        refine own_getstatic X11 hx hby hZ hown (host := "") (Or.inl (hw _ tw_23)) Via.refl e11 ((g_S_UNKNOWN G).ext O) d2_38 rfl (fun T13 X13 e13 => ?_)
        refine own_ret X13 hx hby hret hlk d2_41 (.ref a_UNKNOWN) rfl (Or.inr (Or.inr ⟨rfl, rfl, rfl⟩)) (by decide) (by decide) ?_
        refine ⟨?_, rfl, e13⟩
        unfold own_and; repeat' split
        all_goals first | rfl | (exfalso; simp_all; done) | simp_all
      · -- pc 22: f
        simp only [Value.ref.injEq] at hc12
        refine own_aloadN X11 hx hby d2_25 rfl rfl rfl ?_
        refine own_getstatic X11 hx hby hZ hown (host := "") (Or.inl (hw _ tw_22)) Via.refl e11 ((g_S_TRUE G).ext O) d2_26 rfl (fun T14 X14 e14 => ?_)
        refine own_acmp_ne X14 hx hby d2_29 (pcY := 38) (pcN := 32) (by decide) rfl rfl rfl (fun (hc15 : ¬ ((.ref x1) : Value) = (.ref a_TRUE)) => ?_) (fun (hc15 : ((.ref x1) : Value) = (.ref a_TRUE)) => ?_)
        · -- pc 29: t
          simp only [Value.ref.injEq] at hc15
          refine own_getstatic X14 hx hby hZ hown (host := "") (Or.inl (hw _ tw_23)) Via.refl e14 ((g_S_UNKNOWN G).ext O) d2_38 rfl (fun T16 X16 e16 => ?_)
          refine own_ret X16 hx hby hret hlk d2_41 (.ref a_UNKNOWN) rfl (Or.inr (Or.inr ⟨rfl, rfl, rfl⟩)) (by decide) (by decide) ?_
          refine ⟨?_, rfl, e16⟩
          unfold own_and; repeat' split
          all_goals first | rfl | (exfalso; simp_all; done) | simp_all
        · -- pc 29: f
          simp only [Value.ref.injEq] at hc15
          refine own_getstatic X14 hx hby hZ hown (host := "") (Or.inl (hw _ tw_22)) Via.refl e14 ((g_S_TRUE G).ext O) d2_32 rfl (fun T17 X17 e17 => ?_)
          refine own_goto X17 hx hby d2_35 (pc' := 41) (by decide) ?_
          refine own_ret X17 hx hby hret hlk d2_41 (.ref a_TRUE) rfl (Or.inr (Or.inr ⟨rfl, rfl, rfl⟩)) (by decide) (by decide) ?_
          refine ⟨?_, rfl, e17⟩
          unfold own_and; repeat' split
          all_goals first | rfl | (exfalso; simp_all; done) | simp_all
    · -- pc 11: f
      simp only [Value.ref.injEq] at hc10
      refine own_getstatic X9 hx hby hZ hown (host := "") (Or.inl (hw _ tw_13)) Via.refl e9 ((g_S_FALSE G).ext O) d2_14 rfl (fun T18 X18 e18 => ?_)
      refine own_ret X18 hx hby hret hlk d2_17 (.ref a_FALSE) rfl (Or.inr (Or.inr ⟨rfl, rfl, rfl⟩)) (by decide) (by decide) ?_
      refine ⟨?_, rfl, e18⟩
      unfold own_and; repeat' split
      all_goals first | rfl | (exfalso; simp_all; done) | simp_all
set_option maxRecDepth 65536 in
set_option maxHeartbeats 40000000 in
theorem rm3 (l : Launch) (Z : State) (a0 : Array Value) (hw : ∀ d ∈ tables_1, d.before a0 Z = true) (x0 : Int32) (x1 : Int32) (h0 : Heap) :
    OwnMet l Z (⟨"java/lang/Math", "min", "(II)I"⟩ : MethodName) jdk_29_method_69_code 2 (some .int) [] ({ frames := 0, cells := 0, slots := 0, locals := 0 } : Room) #[(.int x0), (.int x1)] h0 (fun v h L => v = some (.int (own_min x0 x1)) ∧ L = [] ∧ h = h0) := by
  refine own_body (Jvm.Free.JP.mathPlain rfl (by decide +kernel)) (fun m => ef_3 m x0 x1) ?_
  intro p e s m below meth c s₁ X0 hx hby hml hown hnm hret hlk hZ e0
  replace hown : s.vm.findClass "java/lang/Math" = some m.cls := hown
  replace hml : c.maxLocals = 2 := hml
  show Ends p.tables e below _ (s₁.setTop (mkF m 0 #[.val (.int x0), .val (.int x1)] []))
  refine own_iloadN X0 hx hby d3_0 rfl rfl ?_
  refine own_iloadN X0 hx hby d3_1 rfl rfl ?_
  refine own_icmp_gt X0 hx hby d3_2 (pcY := 9) (pcN := 5) (by decide) rfl (fun (hc19 : x1.toInt < x0.toInt) => ?_) (fun (hc19 : x0.toInt ≤ x1.toInt) => ?_)
  · -- pc 2: t
    refine own_iloadN X0 hx hby d3_9 rfl rfl ?_
    refine own_ret X0 hx hby hret hlk d3_10 (.int x1) rfl (Or.inl ⟨rfl, by simp, _, rfl⟩) (by decide) (by decide) ?_
    refine ⟨?_, rfl, e0⟩
    first | rw [own_min, if_pos (by omega)] | rw [own_min, if_neg (by omega)]
  · -- pc 2: f
    refine own_iloadN X0 hx hby d3_5 rfl rfl ?_
    refine own_goto X0 hx hby d3_6 (pc' := 10) (by decide) ?_
    refine own_ret X0 hx hby hret hlk d3_10 (.int x0) rfl (Or.inl ⟨rfl, by simp, _, rfl⟩) (by decide) (by decide) ?_
    refine ⟨?_, rfl, e0⟩
    first | rw [own_min, if_pos (by omega)] | rw [own_min, if_neg (by omega)]
set_option maxRecDepth 65536 in
set_option maxHeartbeats 40000000 in
theorem rm0 (l : Launch) (Z : State) (a0 : Array Value) (hw : ∀ d ∈ tables_1, d.before a0 Z = true) (x0 : Int32) (x1 : Int32) (h0 : Heap) (n0 : Nat) {a_FALSE a_TRUE a_UNKNOWN : Addr} (G : OwnG Z a_FALSE a_TRUE a_UNKNOWN) (O : Ext Z.heap h0) :
    OwnMet l Z x code maxLocals ret tables_1 room_1 #[(.int x0), (.int x1)] h0 (fun v h L => v = some (.int 1) ∧ Fr n0 L) := by
  refine own_body (plainFor_of_name pn_0) (fun m => ef_0 m x0 x1) ?_
  intro p e s m below meth c s₁ X0 hx hby hml hown hnm hret hlk hZ e0
  replace hown : s.vm.findClass "com/example/latticework/latticework/core/TruthAndPinLaw" = some m.cls := hown
  replace hml : c.maxLocals = 7 := hml
  have N0 := Fr.nil n0
  show Ends p.tables e below _ (s₁.setTop (mkF m 0 #[.val (.int x0), .val (.int x1), .unset, .unset, .unset, .unset, .unset] []))
  refine own_iloadN X0 hx hby at_0 rfl rfl ?_
  refine own_ldcI X0 hx hby hZ hown (hw _ tw_0) at_1 rfl ?_
  refine own_iand X0 hx hby at_3 rfl ?_
  refine own_iconst X0 hx hby at_4 rfl (3 : Int32) rfl ?_
  refine own_irem X0 hx hby at_5 rfl (by decide) ?_
  refine own_istoreN X0 hx hby at_6 rfl #[.val (.int x0), .val (.int x1), .val (.int ((x0 &&& (2147483647 : Int32)) % (3 : Int32))), .unset, .unset, .unset, .unset] rfl ?_
  refine own_iloadN X0 hx hby at_7 rfl rfl ?_
  refine own_ldcI X0 hx hby hZ hown (hw _ tw_0) at_8 rfl ?_
  refine own_iand X0 hx hby at_10 rfl ?_
  refine own_iconst X0 hx hby at_11 rfl (3 : Int32) rfl ?_
  refine own_irem X0 hx hby at_12 rfl (by decide) ?_
  refine own_istoreN X0 hx hby at_13 rfl #[.val (.int x0), .val (.int x1), .val (.int ((x0 &&& (2147483647 : Int32)) % (3 : Int32))), .val (.int ((x1 &&& (2147483647 : Int32)) % (3 : Int32))), .unset, .unset, .unset] rfl ?_
  refine own_iloadN X0 hx hby at_14 rfl rfl ?_
  refine own_static X0 hx hby hZ (argsL := [(.int ((x0 &&& (2147483647 : Int32)) % (3 : Int32)))]) (rest := []) hown (hw _ tw_1) (hw _ tw_2) (hw _ tw_3) (hw _ tw_4) (by decide) (rm1 l Z a0 hw ((x0 &&& (2147483647 : Int32)) % (3 : Int32)) h0 G O) e0 (by rw [hml]; rfl) pd_0 rfl (by decide) (W := 0) (Nat.le_refl _) (by decide) (by decide) (by decide) at_15 rfl rfl (fun v20 T20 L20 X20 hQ20 => ?_)
  obtain ⟨rfl, rfl, e20⟩ := hQ20
  show Ends p.tables e below _ (T20.setTop (mkF m 18 #[.val (.int x0), .val (.int x1), .val (.int ((x0 &&& (2147483647 : Int32)) % (3 : Int32))), .val (.int ((x1 &&& (2147483647 : Int32)) % (3 : Int32))), .unset, .unset, .unset] [(.ref (own_pk ((x0 &&& (2147483647 : Int32)) % (3 : Int32)) a_FALSE a_TRUE a_UNKNOWN))]))
  refine own_astore X20 hx hby at_18 rfl #[.val (.int x0), .val (.int x1), .val (.int ((x0 &&& (2147483647 : Int32)) % (3 : Int32))), .val (.int ((x1 &&& (2147483647 : Int32)) % (3 : Int32))), .val (.ref (own_pk ((x0 &&& (2147483647 : Int32)) % (3 : Int32)) a_FALSE a_TRUE a_UNKNOWN)), .unset, .unset] rfl rfl ?_
  refine own_iloadN X20 hx hby at_20 rfl rfl ?_
  refine own_static X20 hx hby hZ (argsL := [(.int ((x1 &&& (2147483647 : Int32)) % (3 : Int32)))]) (rest := []) hown (hw _ tw_1) (hw _ tw_2) (hw _ tw_3) (hw _ tw_4) (by decide) (rm1 l Z a0 hw ((x1 &&& (2147483647 : Int32)) % (3 : Int32)) h0 G O) e20 (by rw [hml]; rfl) pd_0 rfl (by decide) (W := 0) (Nat.le_refl _) (by decide) (by decide) (by decide) at_21 rfl rfl (fun v21 T21 L21 X21 hQ21 => ?_)
  obtain ⟨rfl, rfl, e21⟩ := hQ21
  show Ends p.tables e below _ (T21.setTop (mkF m 24 #[.val (.int x0), .val (.int x1), .val (.int ((x0 &&& (2147483647 : Int32)) % (3 : Int32))), .val (.int ((x1 &&& (2147483647 : Int32)) % (3 : Int32))), .val (.ref (own_pk ((x0 &&& (2147483647 : Int32)) % (3 : Int32)) a_FALSE a_TRUE a_UNKNOWN)), .unset, .unset] [(.ref (own_pk ((x1 &&& (2147483647 : Int32)) % (3 : Int32)) a_FALSE a_TRUE a_UNKNOWN))]))
  refine own_astore X21 hx hby at_24 rfl #[.val (.int x0), .val (.int x1), .val (.int ((x0 &&& (2147483647 : Int32)) % (3 : Int32))), .val (.int ((x1 &&& (2147483647 : Int32)) % (3 : Int32))), .val (.ref (own_pk ((x0 &&& (2147483647 : Int32)) % (3 : Int32)) a_FALSE a_TRUE a_UNKNOWN)), .val (.ref (own_pk ((x1 &&& (2147483647 : Int32)) % (3 : Int32)) a_FALSE a_TRUE a_UNKNOWN)), .unset] rfl rfl ?_
  refine own_aload X21 hx hby at_26 rfl rfl rfl ?_
  refine own_aload X21 hx hby at_28 rfl rfl rfl ?_
  refine own_virtual X21 hx hby hZ (Cn := "com/example/latticework/latticework/core/Truth") (a := (own_pk ((x0 &&& (2147483647 : Int32)) % (3 : Int32)) a_FALSE a_TRUE a_UNKNOWN)) (argsL := [(.ref (own_pk ((x1 &&& (2147483647 : Int32)) % (3 : Int32)) a_FALSE a_TRUE a_UNKNOWN))]) (rest := []) hown (hw _ tw_8) (hw _ tw_9) (hw _ tw_11) (hw _ tw_10) (hw _ tw_6) (hw _ tw_12) (by decide) (rm2 l Z a0 hw (own_pk ((x0 &&& (2147483647 : Int32)) % (3 : Int32)) a_FALSE a_TRUE a_UNKNOWN) (own_pk ((x1 &&& (2147483647 : Int32)) % (3 : Int32)) a_FALSE a_TRUE a_UNKNOWN) h0 G O) (own_exa _ ((g_E_FALSE G).ext O) ((g_E_TRUE G).ext O) ((g_E_UNKNOWN G).ext O)) e21 (by rw [hml]; rfl) pd_1 rfl (by decide) (W := 0) (Nat.le_refl _) (by decide) (by decide) (by decide) at_30 rfl rfl (fun v22 T22 L22 X22 hQ22 => ?_)
  obtain ⟨rfl, rfl, e22⟩ := hQ22
  show Ends p.tables e below _ (T22.setTop (mkF m 33 #[.val (.int x0), .val (.int x1), .val (.int ((x0 &&& (2147483647 : Int32)) % (3 : Int32))), .val (.int ((x1 &&& (2147483647 : Int32)) % (3 : Int32))), .val (.ref (own_pk ((x0 &&& (2147483647 : Int32)) % (3 : Int32)) a_FALSE a_TRUE a_UNKNOWN)), .val (.ref (own_pk ((x1 &&& (2147483647 : Int32)) % (3 : Int32)) a_FALSE a_TRUE a_UNKNOWN)), .unset] [(.ref (own_and (own_pk ((x0 &&& (2147483647 : Int32)) % (3 : Int32)) a_FALSE a_TRUE a_UNKNOWN) (own_pk ((x1 &&& (2147483647 : Int32)) % (3 : Int32)) a_FALSE a_TRUE a_UNKNOWN) a_FALSE a_TRUE a_UNKNOWN))]))
  refine own_astore X22 hx hby at_33 rfl #[.val (.int x0), .val (.int x1), .val (.int ((x0 &&& (2147483647 : Int32)) % (3 : Int32))), .val (.int ((x1 &&& (2147483647 : Int32)) % (3 : Int32))), .val (.ref (own_pk ((x0 &&& (2147483647 : Int32)) % (3 : Int32)) a_FALSE a_TRUE a_UNKNOWN)), .val (.ref (own_pk ((x1 &&& (2147483647 : Int32)) % (3 : Int32)) a_FALSE a_TRUE a_UNKNOWN)), .val (.ref (own_and (own_pk ((x0 &&& (2147483647 : Int32)) % (3 : Int32)) a_FALSE a_TRUE a_UNKNOWN) (own_pk ((x1 &&& (2147483647 : Int32)) % (3 : Int32)) a_FALSE a_TRUE a_UNKNOWN) a_FALSE a_TRUE a_UNKNOWN))] rfl rfl ?_
  refine own_aload X22 hx hby at_35 rfl rfl rfl ?_
  refine own_iloadN X22 hx hby at_37 rfl rfl ?_
  refine own_iloadN X22 hx hby at_38 rfl rfl ?_
  refine own_static X22 hx hby hZ (argsL := [(.int ((x0 &&& (2147483647 : Int32)) % (3 : Int32))), (.int ((x1 &&& (2147483647 : Int32)) % (3 : Int32)))]) (rest := [(.ref (own_and (own_pk ((x0 &&& (2147483647 : Int32)) % (3 : Int32)) a_FALSE a_TRUE a_UNKNOWN) (own_pk ((x1 &&& (2147483647 : Int32)) % (3 : Int32)) a_FALSE a_TRUE a_UNKNOWN) a_FALSE a_TRUE a_UNKNOWN))]) hown (hw _ tw_14) (hw _ tw_15) (hw _ tw_16) (hw _ tw_17) (by decide) (rm3 l Z a0 hw ((x0 &&& (2147483647 : Int32)) % (3 : Int32)) ((x1 &&& (2147483647 : Int32)) % (3 : Int32)) h0) e22 (by rw [hml]; rfl) pd_2 rfl (by decide) (W := 1) (Nat.le_refl _) (by decide) (by decide) (by decide) at_39 rfl rfl (fun v23 T23 L23 X23 hQ23 => ?_)
  obtain ⟨rfl, rfl, e23⟩ := hQ23
  show Ends p.tables e below _ (T23.setTop (mkF m 42 #[.val (.int x0), .val (.int x1), .val (.int ((x0 &&& (2147483647 : Int32)) % (3 : Int32))), .val (.int ((x1 &&& (2147483647 : Int32)) % (3 : Int32))), .val (.ref (own_pk ((x0 &&& (2147483647 : Int32)) % (3 : Int32)) a_FALSE a_TRUE a_UNKNOWN)), .val (.ref (own_pk ((x1 &&& (2147483647 : Int32)) % (3 : Int32)) a_FALSE a_TRUE a_UNKNOWN)), .val (.ref (own_and (own_pk ((x0 &&& (2147483647 : Int32)) % (3 : Int32)) a_FALSE a_TRUE a_UNKNOWN) (own_pk ((x1 &&& (2147483647 : Int32)) % (3 : Int32)) a_FALSE a_TRUE a_UNKNOWN) a_FALSE a_TRUE a_UNKNOWN))] [(.int (own_min ((x0 &&& (2147483647 : Int32)) % (3 : Int32)) ((x1 &&& (2147483647 : Int32)) % (3 : Int32)))), (.ref (own_and (own_pk ((x0 &&& (2147483647 : Int32)) % (3 : Int32)) a_FALSE a_TRUE a_UNKNOWN) (own_pk ((x1 &&& (2147483647 : Int32)) % (3 : Int32)) a_FALSE a_TRUE a_UNKNOWN) a_FALSE a_TRUE a_UNKNOWN))]))
  refine own_static X23 hx hby hZ (argsL := [(.int (own_min ((x0 &&& (2147483647 : Int32)) % (3 : Int32)) ((x1 &&& (2147483647 : Int32)) % (3 : Int32))))]) (rest := [(.ref (own_and (own_pk ((x0 &&& (2147483647 : Int32)) % (3 : Int32)) a_FALSE a_TRUE a_UNKNOWN) (own_pk ((x1 &&& (2147483647 : Int32)) % (3 : Int32)) a_FALSE a_TRUE a_UNKNOWN) a_FALSE a_TRUE a_UNKNOWN))]) hown (hw _ tw_1) (hw _ tw_2) (hw _ tw_3) (hw _ tw_4) (by decide) (rm1 l Z a0 hw (own_min ((x0 &&& (2147483647 : Int32)) % (3 : Int32)) ((x1 &&& (2147483647 : Int32)) % (3 : Int32))) h0 G O) e23 (by rw [hml]; rfl) pd_0 rfl (by decide) (W := 1) (Nat.le_refl _) (by decide) (by decide) (by decide) at_42 rfl rfl (fun v24 T24 L24 X24 hQ24 => ?_)
  obtain ⟨rfl, rfl, e24⟩ := hQ24
  show Ends p.tables e below _ (T24.setTop (mkF m 45 #[.val (.int x0), .val (.int x1), .val (.int ((x0 &&& (2147483647 : Int32)) % (3 : Int32))), .val (.int ((x1 &&& (2147483647 : Int32)) % (3 : Int32))), .val (.ref (own_pk ((x0 &&& (2147483647 : Int32)) % (3 : Int32)) a_FALSE a_TRUE a_UNKNOWN)), .val (.ref (own_pk ((x1 &&& (2147483647 : Int32)) % (3 : Int32)) a_FALSE a_TRUE a_UNKNOWN)), .val (.ref (own_and (own_pk ((x0 &&& (2147483647 : Int32)) % (3 : Int32)) a_FALSE a_TRUE a_UNKNOWN) (own_pk ((x1 &&& (2147483647 : Int32)) % (3 : Int32)) a_FALSE a_TRUE a_UNKNOWN) a_FALSE a_TRUE a_UNKNOWN))] [(.ref (own_pk (own_min ((x0 &&& (2147483647 : Int32)) % (3 : Int32)) ((x1 &&& (2147483647 : Int32)) % (3 : Int32))) a_FALSE a_TRUE a_UNKNOWN)), (.ref (own_and (own_pk ((x0 &&& (2147483647 : Int32)) % (3 : Int32)) a_FALSE a_TRUE a_UNKNOWN) (own_pk ((x1 &&& (2147483647 : Int32)) % (3 : Int32)) a_FALSE a_TRUE a_UNKNOWN) a_FALSE a_TRUE a_UNKNOWN))]))
  refine own_acmp_ne X24 hx hby at_45 (pcY := 52) (pcN := 48) (by decide) rfl rfl rfl (fun (hc25 : ¬ ((.ref (own_and (own_pk ((x0 &&& (2147483647 : Int32)) % (3 : Int32)) a_FALSE a_TRUE a_UNKNOWN) (own_pk ((x1 &&& (2147483647 : Int32)) % (3 : Int32)) a_FALSE a_TRUE a_UNKNOWN) a_FALSE a_TRUE a_UNKNOWN)) : Value) = (.ref (own_pk (own_min ((x0 &&& (2147483647 : Int32)) % (3 : Int32)) ((x1 &&& (2147483647 : Int32)) % (3 : Int32))) a_FALSE a_TRUE a_UNKNOWN))) => False.elim (by exact hc25 (congrArg Value.ref (own_law _ _ _ _ _ ((g_F_FALSE_ordinal G).ne (g_F_TRUE_ordinal G) (by decide)) ((g_F_FALSE_ordinal G).ne (g_F_UNKNOWN_ordinal G) (by decide)) ((g_F_TRUE_ordinal G).ne (g_F_UNKNOWN_ordinal G) (by decide)) (own_3 _) (own_3 _))))) (fun (hc25 : ((.ref (own_and (own_pk ((x0 &&& (2147483647 : Int32)) % (3 : Int32)) a_FALSE a_TRUE a_UNKNOWN) (own_pk ((x1 &&& (2147483647 : Int32)) % (3 : Int32)) a_FALSE a_TRUE a_UNKNOWN) a_FALSE a_TRUE a_UNKNOWN)) : Value) = (.ref (own_pk (own_min ((x0 &&& (2147483647 : Int32)) % (3 : Int32)) ((x1 &&& (2147483647 : Int32)) % (3 : Int32))) a_FALSE a_TRUE a_UNKNOWN))) => ?_)
  refine own_iconst X24 hx hby at_48 rfl (1 : Int32) rfl ?_
  refine own_goto X24 hx hby at_49 (pc' := 53) (by decide) ?_
  refine own_ret X24 hx hby hret hlk at_53 (.int (1 : Int32)) rfl (Or.inl ⟨rfl, by simp, _, rfl⟩) (by decide) (by decide) ?_
  exact ⟨rfl, (Fr.app (Fr.app (Fr.app (Fr.app (Fr.app N0 (Fr.nil _)) (Fr.nil _)) (Fr.nil _)) (Fr.nil _)) (Fr.nil _))⟩
set_option maxRecDepth 65536 in
set_option maxHeartbeats 40000000 in
theorem comes_1 {Post : Tables → Env → Array Value → State → Outcome → State → Prop} (hpost : ∀ tb e args s v u, (limb_1_1.after args s (.returned v) u = true ∧ limb_1_2.after args s (.returned v) u = true ∧ True) → FrameEnd s (.returned v) u (Jvm.fieldLocs frame_1_writes args s ++ Jvm.arrayLocs frame_1_arrays args s ++ Jvm.staticLocs frame_1_statics s) 0 0 → Post tb e args s (.returned v) u) :
    ArmFor flags0 classFile x code maxLocals ret World_1 tables_1 room_1 Calls_1 rest_1 Pre_1 Post := by
  intro l hfl _ _ p e ha hc hk s m args below hf hA hF happ hP
  obtain ⟨hcalls, hrest, hpre⟩ := hP
  obtain ⟨-, -, -, hnamed, -, -, -, hat⟩ := (Spec.applies_iff hf).mp happ
  obtain ⟨hg, hn⟩ := and_e (Cond.before_iff.mp (show (Jvm.Cond.and given_1 narrow_1).before args s = true from hpre))
  obtain ⟨hcount, hg0⟩ := and_e hg
  obtain ⟨hv0, hg1⟩ := and_e hg0
  have hv1 := hg1
  obtain ⟨w0, w1, rfl⟩ : ∃ w0 w1 : Value, args = #[w0, w1] := by
    have hs : args.size = 2 := by simpa [Cond.value, given_1] using hcount
    obtain ⟨L⟩ := args
    match L, hs with
    | [w0, w1], _ => exact ⟨w0, w1, rfl⟩
  have hw := fun d (hd : d ∈ tables_1) => atoms_spec (ws := Jvm.Cond.code x code maxLocals ret :: tables_1) hat d (List.mem_cons_of_mem _ hd)
  have hfit : Fit s := fun {y c} hc i hi => by
    obtain ⟨ha, rfl⟩ := Array.getElem?_eq_some_iff.mp hc
    have q := List.all_eq_true.mp ((Array.all_eq_true_iff_forall_mem.mp hF) _ (Array.getElem_mem ha)) i (List.mem_range.mpr hi)
    simpa [Array.getElem?_eq_getElem hi] using q
  obtain ⟨i0, ei0⟩ := is_v hv0
  obtain rfl : w0 = (.int i0) := Option.some.inj ei0
  obtain ⟨i1, ei1⟩ := is_v hv1
  obtain rfl : w1 = (.int i1) := Option.some.inj ei1
  obtain ⟨n0, hn0⟩ := and_e hn
  obtain ⟨n1, hn1⟩ := and_e hn0
  obtain ⟨n2, hn2⟩ := and_e hn1
  obtain ⟨n3, hn3⟩ := and_e hn2
  obtain ⟨n4, hn4⟩ := and_e hn3
  have n5 := hn4
  obtain ⟨a_FALSE, ev_FALSE⟩ := exa_v n0
  have S_FALSE : Sta s s.heap "com/example/latticework/latticework/core/Truth" "FALSE" "Lcom/example/latticework/latticework/core/Truth;" (.ref a_FALSE) := Sta.start ev_FALSE (Or.inr ⟨(hw _ tw_6), (hw _ tw_7)⟩)
  have E_FALSE : Exa s s.heap a_FALSE "com/example/latticework/latticework/core/Truth" := Exa.start ev_FALSE n0
  obtain ⟨a_TRUE, ev_TRUE⟩ := exa_v n1
  have S_TRUE : Sta s s.heap "com/example/latticework/latticework/core/Truth" "TRUE" "Lcom/example/latticework/latticework/core/Truth;" (.ref a_TRUE) := Sta.start ev_TRUE (Or.inr ⟨(hw _ tw_6), (hw _ tw_19)⟩)
  have E_TRUE : Exa s s.heap a_TRUE "com/example/latticework/latticework/core/Truth" := Exa.start ev_TRUE n1
  obtain ⟨a_UNKNOWN, ev_UNKNOWN⟩ := exa_v n2
  have S_UNKNOWN : Sta s s.heap "com/example/latticework/latticework/core/Truth" "UNKNOWN" "Lcom/example/latticework/latticework/core/Truth;" (.ref a_UNKNOWN) := Sta.start ev_UNKNOWN (Or.inr ⟨(hw _ tw_6), (hw _ tw_21)⟩)
  have E_UNKNOWN : Exa s s.heap a_UNKNOWN "com/example/latticework/latticework/core/Truth" := Exa.start ev_UNKNOWN n2
  have F_TRUE_ordinal : Fld s s.heap a_TRUE "java/lang/Enum" "ordinal" "I" (.int (0 : Int32)) := Fld.start ((fld_at ev_TRUE).symm.trans (eqv_i (Term.int_eval _) n3))
  have F_FALSE_ordinal : Fld s s.heap a_FALSE "java/lang/Enum" "ordinal" "I" (.int (1 : Int32)) := Fld.start ((fld_at ev_FALSE).symm.trans (eqv_i (Term.int_eval _) n4))
  have F_UNKNOWN_ordinal : Fld s s.heap a_UNKNOWN "java/lang/Enum" "ordinal" "I" (.int (2 : Int32)) := Fld.start ((fld_at ev_UNKNOWN).symm.trans (eqv_i (Term.int_eval _) n5))
  have G : OwnG s a_FALSE a_TRUE a_UNKNOWN := ⟨S_FALSE, E_FALSE, S_TRUE, E_TRUE, S_UNKNOWN, E_UNKNOWN, F_TRUE_ordinal, F_FALSE_ordinal, F_UNKNOWN_ordinal⟩
  obtain ⟨n, o, h1, h2, h3, _, L, rfl, ⟨rfl, N⟩, hq⟩ := rm0 l s _ hw i0 i1 s.heap s.heap.size G ⟨Nat.le_refl _, fun _ _ q => q⟩ p e ha hc hk s m _ below hf ((Spec.applies_iff_loose hf).mp happ).1 ⟨rfl, State.Warmed39.refl s, rfl⟩ trivial
  refine ⟨n, _, h1, h2, h3, hpost _ _ _ _ _ _ ⟨Cond.after_iff.mpr rfl, Cond.after_iff.mpr (eq_i res_at (Term.int_eval (1)) rfl), trivial⟩ ⟨hq.1, hq.2.1, (hq.2.2.sift fun y hy => Or.inr (N y hy)).mono (by decide) (by decide)⟩⟩
theorem main_1_1 : Claimed_1_1 := comes_1 fun _ _ _ _ _ _ h hF => ⟨h.1, hF⟩
theorem main_1_2 : Claimed_1_2 := comes_1 fun _ _ _ _ _ _ h hF => ⟨h.2.1, hF⟩
end Jvm.Pilot.@@N@@
namespace Jvm.Pilot.@@N@@
open Jvm Jvm.ClassFile Sem Op Lib Jvm.Free Jvm.Stand Jvm.Pilot.@@N@@.Jvm.D
/-! MADE BY PROGRAM (witnessworld.py) out of the Statement's table words and the real class files: 13 classes; the members and pool entries that the words name. The judged class is class 1, her method 2. -/
namespace start1
open Jvm.ClassFile
def u (s : String) : CpInfo := .utf8 (stringToUtf16 s)
/-- a pool by its gaps: so many unusable entries, then the entry; so many at the end -/
def gap : Nat → List CpInfo → List CpInfo
  | 0, r => r
  | n + 1, r => .unusable :: gap n r
def poolList (es : List (Nat × CpInfo)) (last : Nat) : List CpInfo := es.foldr (fun e r => gap e.1 (e.2 :: r)) (gap last [])
def pool (es : List (Nat × CpInfo)) (last : Nat) : Array CpInfo := ⟨poolList es last⟩
def fileOf (pool : Array CpInfo) (this : Nat) (attrs : Array Attribute := #[]) (ms : Array MethodInfo := #[]) (fl : Nat := 33) (sup : Nat := 0) (ifs : Array Nat := #[]) (fds : Array FieldInfo := #[]) : ClassFile where
  minorVersion := 0
  majorVersion := 65
  constantPool := pool
  accessFlags := fl
  thisClass := this
  superClass := sup
  interfaces := ifs
  fields := fds
  methods := ms
  attributes := attrs
def plain (name : String) (sup : Option ClassId) : Class where
  name := name
  kind := .ordinary
  loader := none
  accessFlags := 33
  super := sup
  interfaces := #[]
  cf := none
  fields := #[]
  methods := #[]
  instanceTypes := #[]
  staticTypes := #[]
  resolved := #[]
  callSites := []
  init := .initialized
  statics := none
  mirror := none

def pool0 : Array CpInfo := pool [(5, u "<init>"), (0, u "()V"), (1, .class_ 10), (1, u "java/lang/Object")] 113

def k0m0 : Method := { name := "<init>", desc := "()V", sig := { parameters := [], returnType := none }, accessFlags := 1, code := none }
/-- java/lang/Object -/
def k0 : Class := { plain "java/lang/Object" none with
  accessFlags := 33
  interfaces := #[]
  cf := some (fileOf pool0 8 #[] #[{ accessFlags := 1, nameIndex := 5, descriptorIndex := 6, attributes := #[] }] 33 0 #[] #[])
  fields := #[]
  methods := #[k0m0]
  instanceTypes := #[]
  staticTypes := #[]
  resolved := Array.replicate 124 none
  statics := none }

def pool1 : Array CpInfo := pool [(2, .class_ 4), (1, u "java/lang/Object"), (0, u "<init>"), (0, u "()V"), (0, .fieldref 8 9), (0, .class_ 10), (0, .nameAndType 11 12), (0, u "com/example/latticework/latticework/core/Truth"), (0, u "FALSE"), (0, u "Lcom/example/latticework/latticework/core/Truth;"), (0, .fieldref 8 14), (0, .nameAndType 15 12), (0, u "UNKNOWN"), (0, .fieldref 8 17), (0, .nameAndType 18 12), (0, u "TRUE"), (0, .integer 2147483647), (0, .methodref 21 22), (0, .class_ 23), (0, .nameAndType 24 25), (0, u "com/example/latticework/latticework/core/TruthAndPinLaw"), (0, u "pick"), (0, u "(I)Lcom/example/latticework/latticework/core/Truth;"), (0, .methodref 8 27), (0, .nameAndType 28 29), (0, u "and"), (0, u "(Lcom/example/latticework/latticework/core/Truth;)Lcom/example/latticework/latticework/core/Truth;"), (0, .methodref 31 32), (0, .class_ 33), (0, .nameAndType 34 35), (0, u "java/lang/Math"), (0, u "min"), (0, u "(II)I"), (3, u "law"), (0, u "(II)Z")] 2

def k1m0 : Method := { name := "<init>", desc := "()V", sig := { parameters := [], returnType := none }, accessFlags := 2, code := none }
def k1c1 : Code := { maxStack := 2, maxLocals := 1, code := method_2_code, exceptionTable := #[], attributes := #[] }
def k1m1 : Method := { name := "pick", desc := "(I)Lcom/example/latticework/latticework/core/Truth;", sig := { parameters := [.int], returnType := some (.object "com/example/latticework/latticework/core/Truth") }, accessFlags := 10, code := some k1c1 }
def k1c2 : Code := { maxStack := 3, maxLocals := 7, code := code, exceptionTable := #[], attributes := #[] }
def k1m2 : Method := { name := "law", desc := "(II)Z", sig := { parameters := [.int, .int], returnType := some .boolean }, accessFlags := 9, code := some k1c2 }
/-- com/example/latticework/latticework/core/TruthAndPinLaw -/
def k1 : Class := { plain "com/example/latticework/latticework/core/TruthAndPinLaw" (some 0) with
  accessFlags := 49
  interfaces := #[]
  cf := some (fileOf pool1 21 #[] #[{ accessFlags := 2, nameIndex := 5, descriptorIndex := 6, attributes := #[] }, { accessFlags := 10, nameIndex := 24, descriptorIndex := 25, attributes := #[] }, { accessFlags := 9, nameIndex := 39, descriptorIndex := 40, attributes := #[] }] 49 2 #[] #[])
  fields := #[]
  methods := #[k1m0, k1m1, k1m2]
  instanceTypes := #[]
  staticTypes := #[]
  resolved := Array.replicate 43 none
  statics := none }

def pool2 : Array CpInfo := pool [(1, .class_ 2), (0, u "java/lang/constant/Constable"), (0, .class_ 4), (0, u "java/lang/Object")] 6

/-- java/lang/constant/Constable -/
def k2 : Class := { plain "java/lang/constant/Constable" (some 0) with
  accessFlags := 1537
  interfaces := #[]
  cf := some (fileOf pool2 1 #[] #[] 1537 3 #[] #[])
  fields := #[]
  methods := #[]
  instanceTypes := #[]
  staticTypes := #[]
  resolved := Array.replicate 11 none
  statics := none }

def pool3 : Array CpInfo := pool [(1, .class_ 2), (0, u "java/lang/Comparable"), (0, .class_ 4), (0, u "java/lang/Object")] 7

/-- java/lang/Comparable -/
def k3 : Class := { plain "java/lang/Comparable" (some 0) with
  accessFlags := 1537
  interfaces := #[]
  cf := some (fileOf pool3 1 #[] #[] 1537 3 #[] #[])
  fields := #[]
  methods := #[]
  instanceTypes := #[]
  staticTypes := #[]
  resolved := Array.replicate 12 none
  statics := none }

def pool4 : Array CpInfo := pool [(1, .class_ 2), (0, u "java/io/Serializable"), (0, .class_ 4), (0, u "java/lang/Object")] 2

/-- java/io/Serializable -/
def k4 : Class := { plain "java/io/Serializable" (some 0) with
  accessFlags := 1537
  interfaces := #[]
  cf := some (fileOf pool4 1 #[] #[] 1537 3 #[] #[])
  fields := #[]
  methods := #[]
  instanceTypes := #[]
  staticTypes := #[]
  resolved := Array.replicate 7 none
  statics := none }

def pool5 : Array CpInfo := pool [(2, .class_ 4), (1, u "java/lang/Enum"), (0, u "name"), (0, u "Ljava/lang/String;"), (2, u "ordinal"), (0, u "I"), (1, .class_ 14), (1, u "java/lang/Object"), (4, u "hash"), (86, .class_ 108), (1, u "java/lang/Enum$EnumDesc"), (2, .class_ 112), (0, u "java/lang/constant/Constable"), (0, .class_ 114), (0, u "java/lang/Comparable"), (0, .class_ 116), (0, u "java/io/Serializable")] 87

/-- java/lang/Enum -/
def k5 : Class := { plain "java/lang/Enum" (some 0) with
  accessFlags := 1057
  interfaces := #[2, 3, 4]
  cf := some (fileOf pool5 2 #[.nestMembers #[106]] #[] 1057 12 #[111, 113, 115] #[{ accessFlags := 18, nameIndex := 5, descriptorIndex := 6, attributes := #[] }, { accessFlags := 18, nameIndex := 9, descriptorIndex := 10, attributes := #[] }, { accessFlags := 2, nameIndex := 19, descriptorIndex := 10, attributes := #[] }])
  fields := #[{ name := "name", type := (.object "java/lang/String"), accessFlags := 18, slot := 0, constantValue := 0 }, { name := "ordinal", type := .int, accessFlags := 18, slot := 1, constantValue := 0 }, { name := "hash", type := .int, accessFlags := 2, slot := 2, constantValue := 0 }]
  methods := #[]
  instanceTypes := #[(.object "java/lang/String"), .int, .int]
  staticTypes := #[]
  resolved := Array.replicate 204 none
  statics := none }

def pool6 : Array CpInfo := pool [(1, .class_ 2), (0, u "com/example/latticework/latticework/core/Truth"), (0, .fieldref 1 4), (0, .nameAndType 5 6), (0, u "TRUE"), (0, u "Lcom/example/latticework/latticework/core/Truth;"), (0, .fieldref 1 8), (0, .nameAndType 9 6), (0, u "FALSE"), (0, .fieldref 1 11), (0, .nameAndType 12 6), (0, u "UNKNOWN"), (2, u "$VALUES"), (0, u "[Lcom/example/latticework/latticework/core/Truth;"), (6, .class_ 25), (1, u "java/lang/Enum"), (21, u "and"), (0, u "(Lcom/example/latticework/latticework/core/Truth;)Lcom/example/latticework/latticework/core/Truth;")] 23

def k6c0 : Code := { maxStack := 2, maxLocals := 2, code := prog_55_method_6_code, exceptionTable := #[], attributes := #[] }
def k6m0 : Method := { name := "and", desc := "(Lcom/example/latticework/latticework/core/Truth;)Lcom/example/latticework/latticework/core/Truth;", sig := { parameters := [(.object "com/example/latticework/latticework/core/Truth")], returnType := some (.object "com/example/latticework/latticework/core/Truth") }, accessFlags := 1, code := some k6c0 }
/-- com/example/latticework/latticework/core/Truth -/
def k6 : Class := { plain "com/example/latticework/latticework/core/Truth" (some 5) with
  accessFlags := 16433
  interfaces := #[]
  cf := some (fileOf pool6 1 #[] #[{ accessFlags := 1, nameIndex := 47, descriptorIndex := 48, attributes := #[] }] 16433 23 #[] #[{ accessFlags := 16409, nameIndex := 5, descriptorIndex := 6, attributes := #[] }, { accessFlags := 16409, nameIndex := 9, descriptorIndex := 6, attributes := #[] }, { accessFlags := 16409, nameIndex := 12, descriptorIndex := 6, attributes := #[] }, { accessFlags := 4122, nameIndex := 15, descriptorIndex := 16, attributes := #[] }])
  fields := #[{ name := "TRUE", type := (.object "com/example/latticework/latticework/core/Truth"), accessFlags := 16409, slot := 0, constantValue := 0 }, { name := "FALSE", type := (.object "com/example/latticework/latticework/core/Truth"), accessFlags := 16409, slot := 1, constantValue := 0 }, { name := "UNKNOWN", type := (.object "com/example/latticework/latticework/core/Truth"), accessFlags := 16409, slot := 2, constantValue := 0 }, { name := "$VALUES", type := (.array (.object "com/example/latticework/latticework/core/Truth")), accessFlags := 4122, slot := 3, constantValue := 0 }]
  methods := #[k6m0]
  instanceTypes := #[(.object "java/lang/String"), .int, .int]
  staticTypes := #[(.object "com/example/latticework/latticework/core/Truth"), (.object "com/example/latticework/latticework/core/Truth"), (.object "com/example/latticework/latticework/core/Truth"), (.array (.object "com/example/latticework/latticework/core/Truth"))]
  resolved := Array.replicate 72 none
  statics := some 0 }

def pool7 : Array CpInfo := pool [(1, .class_ 2), (0, u "java/lang/Math"), (1, .class_ 6), (1, u "java/lang/Object"), (0, u "<init>"), (0, u "()V"), (89, .class_ 100), (1, u "java/lang/Math$RandomNumberGeneratorHolder"), (71, u "negativeZeroFloatBits"), (0, u "J"), (2, u "negativeZeroDoubleBits"), (24, u "min"), (43, u "$assertionsDisabled"), (0, u "Z"), (88, u "(II)I"), (2, u "twoToTheDoubleScaleDown"), (0, u "D"), (4, u "twoToTheDoubleScaleUp"), (9, u "E"), (3, u "PI"), (2, u "TAU"), (2, u "DEGREES_TO_RADIANS"), (0, u "RADIANS_TO_DEGREES")] 94

def k7m0 : Method := { name := "<init>", desc := "()V", sig := { parameters := [], returnType := none }, accessFlags := 2, code := none }
def k7c1 : Code := { maxStack := 2, maxLocals := 2, code := jdk_29_method_69_code, exceptionTable := #[], attributes := #[] }
def k7m1 : Method := { name := "min", desc := "(II)I", sig := { parameters := [.int, .int], returnType := some .int }, accessFlags := 9, code := some k7c1 }
/-- java/lang/Math -/
def k7 : Class := { plain "java/lang/Math" (some 0) with
  accessFlags := 49
  interfaces := #[]
  cf := some (fileOf pool7 1 #[.nestMembers #[98]] #[{ accessFlags := 2, nameIndex := 7, descriptorIndex := 8, attributes := #[] }, { accessFlags := 9, nameIndex := 201, descriptorIndex := 335, attributes := #[] }] 49 4 #[] #[{ accessFlags := 25, nameIndex := 354, descriptorIndex := 339, attributes := #[] }, { accessFlags := 25, nameIndex := 358, descriptorIndex := 339, attributes := #[] }, { accessFlags := 25, nameIndex := 361, descriptorIndex := 339, attributes := #[] }, { accessFlags := 26, nameIndex := 364, descriptorIndex := 339, attributes := #[] }, { accessFlags := 26, nameIndex := 365, descriptorIndex := 339, attributes := #[] }, { accessFlags := 26, nameIndex := 172, descriptorIndex := 173, attributes := #[] }, { accessFlags := 26, nameIndex := 176, descriptorIndex := 173, attributes := #[] }, { accessFlags := 8, nameIndex := 344, descriptorIndex := 339, attributes := #[] }, { accessFlags := 8, nameIndex := 338, descriptorIndex := 339, attributes := #[] }, { accessFlags := 4120, nameIndex := 245, descriptorIndex := 246, attributes := #[] }])
  fields := #[{ name := "E", type := .double, accessFlags := 25, slot := 0, constantValue := 0 }, { name := "PI", type := .double, accessFlags := 25, slot := 1, constantValue := 0 }, { name := "TAU", type := .double, accessFlags := 25, slot := 2, constantValue := 0 }, { name := "DEGREES_TO_RADIANS", type := .double, accessFlags := 26, slot := 3, constantValue := 0 }, { name := "RADIANS_TO_DEGREES", type := .double, accessFlags := 26, slot := 4, constantValue := 0 }, { name := "negativeZeroFloatBits", type := .long, accessFlags := 26, slot := 5, constantValue := 0 }, { name := "negativeZeroDoubleBits", type := .long, accessFlags := 26, slot := 6, constantValue := 0 }, { name := "twoToTheDoubleScaleUp", type := .double, accessFlags := 8, slot := 7, constantValue := 0 }, { name := "twoToTheDoubleScaleDown", type := .double, accessFlags := 8, slot := 8, constantValue := 0 }, { name := "$assertionsDisabled", type := .boolean, accessFlags := 4120, slot := 9, constantValue := 0 }]
  methods := #[k7m0, k7m1]
  instanceTypes := #[]
  staticTypes := #[.double, .double, .double, .double, .double, .long, .long, .double, .double, .boolean]
  resolved := Array.replicate 460 none
  statics := none }

def pool8 : Array CpInfo := pool [(1, u "java/lang/Cloneable"), (0, .class_ 1), (0, u "java/lang/Object"), (0, .class_ 3)] 3

/-- java/lang/Cloneable -/
def k8 : Class := { plain "java/lang/Cloneable" (some 0) with
  accessFlags := 1537
  interfaces := #[]
  cf := some (fileOf pool8 2 #[] #[] 1537 4 #[] #[])
  fields := #[]
  methods := #[]
  instanceTypes := #[]
  staticTypes := #[]
  resolved := Array.replicate 8 none
  statics := none }

/-- the primitive byte -/
def k9 : Class := { plain "byte" none with kind := .primitive 'B', accessFlags := 0x411 }
/-- [B -/
def k10 : Class := { plain "[B" (some 0) with kind := .array 9 .byte, interfaces := #[8, 4], accessFlags := 1041 }

/-- the primitive int -/
def k11 : Class := { plain "int" none with kind := .primitive 'I', accessFlags := 0x411 }
/-- [I -/
def k12 : Class := { plain "[I" (some 0) with kind := .array 11 .int, interfaces := #[8, 4], accessFlags := 1041 }

def heap : Heap := #[{ cls := 6, slots := #[.ref 2, .ref 1, .ref 3, .null], vm := .statics 6 },
  { cls := 6, slots := #[.null, .int 1, .int 0], vm := .none },
  { cls := 6, slots := #[.null, .int 0, .int 0], vm := .none },
  { cls := 6, slots := #[.null, .int 2, .int 0], vm := .none }]
def classes : Array Class := #[k0, k1, k2, k3, k4, k5, k6, k7, k8, k9, k10, k11, k12]
def interned : List (Array UInt16 × Addr) := []
def slotsUsed : Nat := 13
def theMethod : MethodId := ⟨1, 2⟩
def args0 : Array Value := #[.int 5, .int 5]
def aboutOver (below : List Frame) : State where
  vm := { classes := classes, interned := interned.toArray }
  heap := heap
  slotsUsed := slotsUsed
  threads := #[{ frames := .invoking theMethod args0 :: below }]
def below0 : List Frame := [.native { method := ⟨0, 0⟩, args := #[] }]
def about1 : State := aboutOver below0
def p0 : Program := .bare "" "" ""
def e0 : Env := launch0.env 0 0 0
theorem w_frames : about1.frames = Frame.invoking theMethod args0 :: below0 := rfl
set_option maxRecDepth 65536 in
theorem w_args : argsFit about1.vm theMethod args0 = true := by decide +kernel
set_option maxRecDepth 65536 in
theorem w_heap : heapFits about1 = true := by decide +kernel
set_option maxRecDepth 65536 in
theorem w_runnable : about1.curStatus? = some .runnable := by decide +kernel
set_option maxRecDepth 65536 in
theorem w_alone : about1.alone = true := by decide +kernel
set_option maxRecDepth 65536 in
theorem w_named : about1.methodNamed? x = some theMethod := by decide +kernel
set_option maxRecDepth 65536 in
theorem w_hears : about1.hears theMethod below0 = true := by decide +kernel
set_option maxRecDepth 65536 in
theorem w_ripe : about1.ripe theMethod args0 below0 = true := by decide +kernel
theorem w_running : about1.status = .running := rfl
set_option maxRecDepth 65536 in
theorem w_room : about1.hasRoom e0.platform room_1 = true :=
  launch0.hasRoom_least _ room_1 (by decide +kernel) (by decide +kernel) (by decide +kernel) (by decide +kernel) (by decide +kernel) (by decide +kernel)
theorem allAtoms_all (ts : List Jvm.Cond) (a : Array Jvm.Value) (st : Jvm.State) : (allAtoms ts).before a st = ts.all (fun c => c.before a st) := by
  induction ts with
  | nil => rfl
  | cons c t ih =>
    show (Jvm.Cond.and c (allAtoms t)).before a st = _
    rw [Jvm.Cond.before_and, ih, List.all_cons]
def words1 : List Jvm.Cond := Jvm.Cond.code x code maxLocals ret :: tables_1
/-- a 'code' word, met by the world's own term for the bytes: nothing is compared byte by byte -/
theorem code_word {y : MethodName} {bytes : ByteArray} {mx : Nat} {rt : Option FieldType} {a : Array Value} {s : State} {m : MethodId} {meth : Method} {c : Code} (h1 : s.methodNamed? y = some m) (h2 : s.vm.method? m = some meth) (h3 : meth.code = some c) (h4 : c.code = bytes)
    (h5 : (c.maxLocals == mx && c.exceptionTable.isEmpty && decide (c.maxStack ≤ mostOperands) && decide (meth.sig.returnType = rt) && !meth.locks && decide (parseMethodDescriptor y.desc = some meth.sig)) = true) : (Jvm.Cond.code y bytes mx rt).before a s = true := by
  simp only [Bool.and_eq_true, beq_iff_eq, Bool.not_eq_true', decide_eq_true_eq] at h5
  obtain ⟨⟨⟨⟨⟨g1, g2⟩, g3⟩, g4⟩, g5⟩, g6⟩ := h5
  simp [Cond.before, Cond.holds, Cond.value, h1, h2, h3, h4, g1, g2, g3, g4, g5, g6]
def isCode : Jvm.Cond → Bool
  | .code _ _ _ _ => true
  | _ => false
theorem all_split {L : List Jvm.Cond} {P : Jvm.Cond → Bool} (h1 : L.all (fun c => isCode c || P c) = true) (h2 : ∀ c ∈ L.filter isCode, P c = true) : L.all P = true := by
  refine List.all_eq_true.mpr fun c hc => ?_
  have h := List.all_eq_true.mp h1 c hc
  rcases Bool.eq_false_or_eq_true (isCode c) with hi | hi
  · exact h2 c (List.mem_filter.mpr ⟨hc, hi⟩)
  · simpa [hi] using h
set_option maxRecDepth 65536 in
theorem w_c0 : (Jvm.Cond.code x code maxLocals ret).before args0 about1 = true := code_word (m := ⟨1, 2⟩) (meth := k1m2) (c := k1c2) (by decide +kernel) rfl rfl rfl (by decide +kernel)
set_option maxRecDepth 65536 in
theorem w_c1 : (Jvm.Cond.code ({ cls := "com/example/latticework/latticework/core/TruthAndPinLaw", name := "pick", desc := "(I)Lcom/example/latticework/latticework/core/Truth;" } : Jvm.MethodName) method_2_code (1 : Nat) (Option.some (Jvm.ClassFile.FieldType.object "com/example/latticework/latticework/core/Truth"))).before args0 about1 = true := code_word (m := ⟨1, 1⟩) (meth := k1m1) (c := k1c1) (by decide +kernel) rfl rfl rfl (by decide +kernel)
set_option maxRecDepth 65536 in
theorem w_c2 : (Jvm.Cond.code ({ cls := "com/example/latticework/latticework/core/Truth", name := "and", desc := "(Lcom/example/latticework/latticework/core/Truth;)Lcom/example/latticework/latticework/core/Truth;" } : Jvm.MethodName) prog_55_method_6_code (2 : Nat) (Option.some (Jvm.ClassFile.FieldType.object "com/example/latticework/latticework/core/Truth"))).before args0 about1 = true := code_word (m := ⟨6, 0⟩) (meth := k6m0) (c := k6c0) (by decide +kernel) rfl rfl rfl (by decide +kernel)
set_option maxRecDepth 65536 in
theorem w_c3 : (Jvm.Cond.code ({ cls := "java/lang/Math", name := "min", desc := "(II)I" } : Jvm.MethodName) jdk_29_method_69_code (2 : Nat) (Option.some Jvm.ClassFile.FieldType.int)).before args0 about1 = true := code_word (m := ⟨7, 1⟩) (meth := k7m1) (c := k7c1) (by decide +kernel) rfl rfl rfl (by decide +kernel)
def codes1 : List Jvm.Cond := [Jvm.Cond.code x code maxLocals ret, Jvm.Cond.code ({ cls := "com/example/latticework/latticework/core/TruthAndPinLaw", name := "pick", desc := "(I)Lcom/example/latticework/latticework/core/Truth;" } : Jvm.MethodName) method_2_code (1 : Nat) (Option.some (Jvm.ClassFile.FieldType.object "com/example/latticework/latticework/core/Truth")), Jvm.Cond.code ({ cls := "com/example/latticework/latticework/core/Truth", name := "and", desc := "(Lcom/example/latticework/latticework/core/Truth;)Lcom/example/latticework/latticework/core/Truth;" } : Jvm.MethodName) prog_55_method_6_code (2 : Nat) (Option.some (Jvm.ClassFile.FieldType.object "com/example/latticework/latticework/core/Truth")), Jvm.Cond.code ({ cls := "java/lang/Math", name := "min", desc := "(II)I" } : Jvm.MethodName) jdk_29_method_69_code (2 : Nat) (Option.some Jvm.ClassFile.FieldType.int)]
set_option maxRecDepth 65536 in
theorem codes_eq : words1.filter isCode = codes1 := rfl
theorem w_codes : ∀ c ∈ words1.filter isCode, c.before args0 about1 = true := by
  rw [codes_eq]
  intro c hc
  simp only [codes1, List.mem_cons, List.not_mem_nil, or_false] at hc
  rcases hc with rfl | rfl | rfl | rfl
  · exact w_c0
  · exact w_c1
  · exact w_c2
  · exact w_c3
set_option maxRecDepth 65536 in
theorem w_t1 : (words1.take 24).all (fun c => isCode c || c.before args0 about1) = true := by decide +kernel
set_option maxRecDepth 65536 in
theorem w_t2 : (words1.drop 24).all (fun c => isCode c || c.before args0 about1) = true := by decide +kernel
theorem w_tables : (allAtoms (Jvm.Cond.code x code maxLocals ret :: tables_1)).before args0 about1 = true := by
  rw [allAtoms_all]
  show words1.all (fun c => c.before args0 about1) = true
  refine all_split ?_ w_codes
  rw [← List.take_append_drop 24 words1, List.all_append, w_t1, w_t2]
  rfl
set_option maxRecDepth 65536 in
theorem w_case : (Jvm.Cond.and given_1 narrow_1).before args0 about1 = true := by decide +kernel
theorem w_applies : (headSpec (Jvm.Cond.code x code maxLocals ret :: tables_1) room_1).applies x e0.platform about1 = true :=
  (Spec.applies_iff w_frames).mpr ⟨w_running, w_runnable, w_alone, w_named, w_hears, w_ripe, w_room, w_tables⟩
theorem atStart : AtStart classFile x code maxLocals ret World_1 tables_1 room_1 Calls_1 rest_1 Pre_1 launch0 p0 e0 about1 theMethod args0 below0 :=
  ⟨lists_1, trivial, launch0.admits_env _ _ _, launch0.least_env, fairChoices_fair.cas, fairChoices_fair.clock, w_frames, w_args, w_heap, w_applies, trivial, trivial, w_case⟩
end start1
theorem witness_1 : WitnessClaimed_1 := ⟨start1.p0, start1.e0, start1.about1, start1.theMethod, start1.args0, start1.below0, start1.atStart⟩
end Jvm.Pilot.@@N@@

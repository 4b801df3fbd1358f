import JvmDerived
import JvmDerived.Pilot.@@N@@Statement
import JvmDerived.Pilot.@@N@@Code
set_option linter.unusedVariables false
set_option linter.unusedSimpArgs false
namespace Jvm.Pilot.@@N@@
open Jvm Jvm.ClassFile Sem Op Lib Jvm.Free Jvm.Stand Jvm.LawKit Jvm.RoadKit Bundle Jvm.Pilot.@@N@@.Jvm.D
/-! THE LAYER own_: 'Ends': from this state the body ends as Q says; one lemma an instruction, over frames in the form mkF -/
section Own
variable {p : Program} {l : Launch} {e : Env} {R : Room} {s : State} {m : MethodId} {args : Array Value} {below : List Frame} {meth : Method} {c : Code} {T : State} {locs : List Loc} {cells slots : Nat}
variable {Q : Option Value → Heap → List Loc → Prop} {C S : Nat} {bc : ByteArray} {pc pc' : Nat} {Ls Ls' : Array Slot} {st : List Value} {Fz : Outcome → State → Prop}
def Ends (tb : Tables) (e : Env) (below : List Frame) (Fz : Outcome → State → Prop) (t : State) : Prop :=
  ∃ s₂ o, Steps tb e below t s₂ ∧ s₂.status = .running ∧ Ended s₂ below o ∧ Fz o s₂
def OwnFin (s : State) (Q : Option Value → Heap → List Loc → Prop) (C S : Nat) (o : Outcome) (s₂ : State) : Prop := ∃ v L, o = .returned v ∧ Q v s₂.heap L ∧ FrameEnd s o s₂ L C S
theorem Ends.of {tb : Tables} {t t' : State} (st : ∀ target, Steps tb e below t' target → Steps tb e below t target) (k : Ends tb e below Fz t') : Ends tb e below Fz t := by
  obtain ⟨s₂, o, h1, h2⟩ := k
  exact ⟨s₂, o, st _ h1, h2⟩
theorem Ends.tr {tb : Tables} {t t' : State} (st : Steps tb e below t t') (k : Ends tb e below Fz t') : Ends tb e below Fz t := Ends.of (fun _ q => st.trans q) k
theorem own_iloadN (X : Stand p l e R s m args below meth c T locs cells slots) (hx : p.tables.exec = Jvm.exec) (hby : c.code = bc) {k : Fin 4} {v : Int32} (hd : decode bc pc = .ok (.iload_n k, 1)) (hp : pc + 1 = pc') (hl : Ls[k.val]? = some (.val (.int v)))
    (kt : Ends p.tables e below Fz (T.setTop (mkF m pc' Ls (.int v :: st)))) : Ends p.tables e below Fz (T.setTop (mkF m pc Ls st)) := by
  subst hp; exact Ends.of (fun _ q => XS.iloadN X.here hx rfl (hb hby hd) hl q) kt
theorem own_iload (X : Stand p l e R s m args below meth c T locs cells slots) (hx : p.tables.exec = Jvm.exec) (hby : c.code = bc) {k : Nat} {v : Int32} (hd : decode bc pc = .ok (.iload k, 2)) (hp : pc + 2 = pc') (hl : Ls[k]? = some (.val (.int v)))
    (kt : Ends p.tables e below Fz (T.setTop (mkF m pc' Ls (.int v :: st)))) : Ends p.tables e below Fz (T.setTop (mkF m pc Ls st)) := by
  subst hp; exact Ends.of (fun _ q => XS.iload X.here hx rfl (hb hby hd) hl q) kt
theorem own_istoreN (X : Stand p l e R s m args below meth c T locs cells slots) (hx : p.tables.exec = Jvm.exec) (hby : c.code = bc) {k : Fin 4} {v : Int32} (hd : decode bc pc = .ok (.istore_n k, 1)) (hp : pc + 1 = pc') (Ls' : Array Slot) (hl : storeLocals Ls k.val (.int v) = some Ls')
    (kt : Ends p.tables e below Fz (T.setTop (mkF m pc' Ls' st))) : Ends p.tables e below Fz (T.setTop (mkF m pc Ls (.int v :: st))) := by
  subst hp; exact Ends.of (fun _ q => XS.istoreN X.here hx rfl (hb hby hd) rfl hl q) kt
theorem own_istore (X : Stand p l e R s m args below meth c T locs cells slots) (hx : p.tables.exec = Jvm.exec) (hby : c.code = bc) {k : Nat} {v : Int32} (hd : decode bc pc = .ok (.istore k, 2)) (hp : pc + 2 = pc') (Ls' : Array Slot) (hl : storeLocals Ls k (.int v) = some Ls')
    (kt : Ends p.tables e below Fz (T.setTop (mkF m pc' Ls' st))) : Ends p.tables e below Fz (T.setTop (mkF m pc Ls (.int v :: st))) := by
  subst hp; exact Ends.of (fun _ q => XS.istore X.here hx rfl (hb hby hd) rfl hl q) kt
theorem own_iconst (X : Stand p l e R s m args below meth c T locs cells slots) (hx : p.tables.exec = Jvm.exec) (hby : c.code = bc) {i : Int} (hd : decode bc pc = .ok (.iconst i, 1)) (hp : pc + 1 = pc') (v : Int32) (hv : Int32.ofInt i = v)
    (kt : Ends p.tables e below Fz (T.setTop (mkF m pc' Ls (.int v :: st)))) : Ends p.tables e below Fz (T.setTop (mkF m pc Ls st)) := by
  subst hp; exact Ends.of (fun _ q => by subst hv; exact XS.iconst X.here hx rfl (hb hby hd) q) kt
theorem own_bipush (X : Stand p l e R s m args below meth c T locs cells slots) (hx : p.tables.exec = Jvm.exec) (hby : c.code = bc) {i : Int} (hd : decode bc pc = .ok (.bipush i, 2)) (hp : pc + 2 = pc') (v : Int32) (hv : (Int8.ofInt i).toInt32 = v)
    (kt : Ends p.tables e below Fz (T.setTop (mkF m pc' Ls (.int v :: st)))) : Ends p.tables e below Fz (T.setTop (mkF m pc Ls st)) := by
  subst hp; exact Ends.of (fun _ q => by subst hv; exact XS.bipush X.here hx rfl (hb hby hd) q) kt
theorem own_iadd (X : Stand p l e R s m args below meth c T locs cells slots) (hx : p.tables.exec = Jvm.exec) (hby : c.code = bc) {x y : Int32} (hd : decode bc pc = .ok (.iadd, 1)) (hp : pc + 1 = pc')
    (kt : Ends p.tables e below Fz (T.setTop (mkF m pc' Ls (.int (x + y) :: st)))) : Ends p.tables e below Fz (T.setTop (mkF m pc Ls (.int y :: .int x :: st))) := by
  subst hp; exact Ends.of (fun _ q => XS.iadd X.here hx rfl (hb hby hd) rfl q) kt
theorem own_iand (X : Stand p l e R s m args below meth c T locs cells slots) (hx : p.tables.exec = Jvm.exec) (hby : c.code = bc) {x y : Int32} (hd : decode bc pc = .ok (.iand, 1)) (hp : pc + 1 = pc')
    (kt : Ends p.tables e below Fz (T.setTop (mkF m pc' Ls (.int (x &&& y) :: st)))) : Ends p.tables e below Fz (T.setTop (mkF m pc Ls (.int y :: .int x :: st))) := by
  subst hp; exact Ends.of (fun _ q => XS.iand X.here hx rfl (hb hby hd) rfl q) kt
theorem own_goto (X : Stand p l e R s m args below meth c T locs cells slots) (hx : p.tables.exec = Jvm.exec) (hby : c.code = bc) {o : Int} (hd : decode bc pc = .ok (.goto o, 3)) (hp : (pc : Int) + o = (pc' : Int)) (kt : Ends p.tables e below Fz (T.setTop (mkF m pc' Ls st))) : Ends p.tables e below Fz (T.setTop (mkF m pc Ls st)) :=
  Ends.of (fun _ q => XS.goto X.here hx rfl (pc0 := pc) (pc' := pc') rfl (hb hby hd) (by rw [hp]; exact Int.natCast_nonneg _) (by rw [hp]; rfl) q) kt
theorem own_icmp_eq (X : Stand p l e R s m args below meth c T locs cells slots) (hx : p.tables.exec = Jvm.exec) (hby : c.code = bc) {x y : Int32} {o : Int} {pcY pcN : Nat} (hd : decode bc pc = .ok (.if_icmp .eq o, 3)) (hpY : (pc : Int) + o = (pcY : Int)) (hpN : pc + 3 = pcN) (kY : x = y → Ends p.tables e below Fz (T.setTop (mkF m pcY Ls st))) (kN : ¬ x = y → Ends p.tables e below Fz (T.setTop (mkF m pcN Ls st))) : Ends p.tables e below Fz (T.setTop (mkF m pc Ls (.int y :: .int x :: st))) := by
  subst hpN; by_cases h : x = y
  · exact Ends.of (fun _ q => XS.icmpYes X.here hx rfl (pc0 := pc) (pc' := pcY) rfl (hb hby hd) rfl (Jvm.Free.XT.ii_eq_t h) (by rw [hpY]; exact Int.natCast_nonneg _) (by rw [hpY]; rfl) q) (kY h)
  · exact Ends.of (fun _ q => XS.icmpNo X.here hx rfl (hb hby hd) rfl (Jvm.Free.XT.ii_eq_f h) q) (kN h)
theorem own_icmp_ne (X : Stand p l e R s m args below meth c T locs cells slots) (hx : p.tables.exec = Jvm.exec) (hby : c.code = bc) {x y : Int32} {o : Int} {pcY pcN : Nat} (hd : decode bc pc = .ok (.if_icmp .ne o, 3)) (hpY : (pc : Int) + o = (pcY : Int)) (hpN : pc + 3 = pcN) (kY : ¬ x = y → Ends p.tables e below Fz (T.setTop (mkF m pcY Ls st))) (kN : x = y → Ends p.tables e below Fz (T.setTop (mkF m pcN Ls st))) : Ends p.tables e below Fz (T.setTop (mkF m pc Ls (.int y :: .int x :: st))) := by
  subst hpN; by_cases h : x = y
  · exact Ends.of (fun _ q => XS.icmpNo X.here hx rfl (hb hby hd) rfl (Jvm.Free.XT.ii_ne_f h) q) (kN h)
  · exact Ends.of (fun _ q => XS.icmpYes X.here hx rfl (pc0 := pc) (pc' := pcY) rfl (hb hby hd) rfl (Jvm.Free.XT.ii_ne_t h) (by rw [hpY]; exact Int.natCast_nonneg _) (by rw [hpY]; rfl) q) (kY h)
theorem own_icmp_lt (X : Stand p l e R s m args below meth c T locs cells slots) (hx : p.tables.exec = Jvm.exec) (hby : c.code = bc) {x y : Int32} {o : Int} {pcY pcN : Nat} (hd : decode bc pc = .ok (.if_icmp .lt o, 3)) (hpY : (pc : Int) + o = (pcY : Int)) (hpN : pc + 3 = pcN) (kY : x.toInt < y.toInt → Ends p.tables e below Fz (T.setTop (mkF m pcY Ls st))) (kN : y.toInt ≤ x.toInt → Ends p.tables e below Fz (T.setTop (mkF m pcN Ls st))) : Ends p.tables e below Fz (T.setTop (mkF m pc Ls (.int y :: .int x :: st))) := by
  subst hpN; by_cases h : x < y
  · exact Ends.of (fun _ q => XS.icmpYes X.here hx rfl (pc0 := pc) (pc' := pcY) rfl (hb hby hd) rfl (Jvm.Free.XT.ii_lt_t h) (by rw [hpY]; exact Int.natCast_nonneg _) (by rw [hpY]; rfl) q) (kY (Int32.lt_iff_toInt_lt.mp h))
  · exact Ends.of (fun _ q => XS.icmpNo X.here hx rfl (hb hby hd) rfl (Jvm.Free.XT.ii_lt_f h) q) (kN (Int.not_lt.mp fun q => h (Int32.lt_iff_toInt_lt.mpr q)))
theorem own_icmp_gt (X : Stand p l e R s m args below meth c T locs cells slots) (hx : p.tables.exec = Jvm.exec) (hby : c.code = bc) {x y : Int32} {o : Int} {pcY pcN : Nat} (hd : decode bc pc = .ok (.if_icmp .gt o, 3)) (hpY : (pc : Int) + o = (pcY : Int)) (hpN : pc + 3 = pcN) (kY : y.toInt < x.toInt → Ends p.tables e below Fz (T.setTop (mkF m pcY Ls st))) (kN : x.toInt ≤ y.toInt → Ends p.tables e below Fz (T.setTop (mkF m pcN Ls st))) : Ends p.tables e below Fz (T.setTop (mkF m pc Ls (.int y :: .int x :: st))) := by
  subst hpN; by_cases h : y < x
  · exact Ends.of (fun _ q => XS.icmpYes X.here hx rfl (pc0 := pc) (pc' := pcY) rfl (hb hby hd) rfl (Jvm.Free.XT.ii_gt_t h) (by rw [hpY]; exact Int.natCast_nonneg _) (by rw [hpY]; rfl) q) (kY (Int32.lt_iff_toInt_lt.mp h))
  · exact Ends.of (fun _ q => XS.icmpNo X.here hx rfl (hb hby hd) rfl (Jvm.Free.XT.ii_gt_f h) q) (kN (Int.not_lt.mp fun q => h (Int32.lt_iff_toInt_lt.mpr q)))
theorem own_if_eq (X : Stand p l e R s m args below meth c T locs cells slots) (hx : p.tables.exec = Jvm.exec) (hby : c.code = bc) {x : Int32} {o : Int} {pcY pcN : Nat} (hd : decode bc pc = .ok (.ifCond .eq o, 3)) (hpY : (pc : Int) + o = (pcY : Int)) (hpN : pc + 3 = pcN) (kY : x = 0 → Ends p.tables e below Fz (T.setTop (mkF m pcY Ls st))) (kN : ¬ x = 0 → Ends p.tables e below Fz (T.setTop (mkF m pcN Ls st))) : Ends p.tables e below Fz (T.setTop (mkF m pc Ls (.int x :: st))) := by
  subst hpN; by_cases h : x = (0 : Int32)
  · exact Ends.of (fun _ q => XS.ifYes X.here hx rfl (pc0 := pc) (pc' := pcY) rfl (hb hby hd) rfl (Jvm.Free.XT.i0_eq_t h) (by rw [hpY]; exact Int.natCast_nonneg _) (by rw [hpY]; rfl) q) (kY h)
  · exact Ends.of (fun _ q => XS.ifNo X.here hx rfl (hb hby hd) rfl (Jvm.Free.XT.i0_eq_f h) q) (kN h)
theorem own_ret (X : Stand p l e R s m args below meth c T locs cells slots) (hx : p.tables.exec = Jvm.exec) (hby : c.code = bc) {v : Value} {t : FieldType} {i : Instr} (hret : meth.sig.returnType = some t) (hk : meth.locks = false) (hd : decode bc pc = .ok (i, 1)) (v' : Value) (hn : narrow t v = v')
    (hi : (i = .ireturn ∧ (t = .int ∨ t = .boolean ∨ t = .byte ∨ t = .char ∨ t = .short) ∧ ∃ z, v = .int z) ∨ (i = .lreturn ∧ t = .long ∧ ∃ z, v = .long z) ∨ (i = .areturn ∧ t.isReference = true ∧ v.isRef = true))
    (hC : cells ≤ C) (hS : slots ≤ S) (q : Q (some v') T.heap locs) : Ends p.tables e below (OwnFin s Q C S) (T.setTop (mkF m pc Ls (v :: st))) := by
  obtain ⟨fs, hr, hrun, hended, hW, hsame⟩ := X.leave (v := some v') (fun h => by rw [hret] at h; cases h) hk
  refine ⟨_, _, ?_, hrun, hended, _, _, rfl, q, ⟨_, rfl⟩, hW, hsame.mono hC hS⟩
  have hm' : T.vm.method? m = some meth := X.method'
  show Steps p.tables e below (T.setTop { method := m, pc := pc, locals := Ls, stack := v :: st, locked := none }) _
  have hd' := hb hby hd
  rcases hi with ⟨rfl, ht, z, rfl⟩ | ⟨rfl, rfl, z, rfl⟩ | ⟨rfl, ht, hv⟩
  · rcases ht with rfl | rfl | rfl | rfl | rfl <;> (jvm_step X.here [X.here.top, hx, hd', hm', hret, hn]; first | (intro acts; rw [hr _ acts rfl rfl rfl]) | rw [hr _ _ rfl rfl rfl]) <;> exact Steps.refl _
  · have hn2 : Value.long z = v' := hn
    subst hn2
    jvm_step X.here [X.here.top, hx, hd', hm', hret, hn]
    first | (intro acts; rw [hr _ acts rfl rfl rfl]) | rw [hr _ _ rfl rfl rfl]
    exact Steps.refl _
  · have hn2 : v = v' := by rw [← hn]; rcases ref_cases hv with rfl | ⟨z, rfl⟩ <;> cases t <;> rfl
    subst hn2
    jvm_step X.here [X.here.top, hx, hd', hm', hret, hn, ht, hv]
    first | (intro acts; rw [hr _ acts rfl rfl rfl]) | rw [hr _ _ rfl rfl rfl]
    exact Steps.refl _
end Own
section OwnH
variable {p : Program} {l : Launch} {e : Env} {R : Room} {s : State} {m : MethodId} {args : Array Value} {below : List Frame} {meth : Method} {c : Code} {T : State} {locs : List Loc} {cells slots : Nat}
variable {Fz : Outcome → State → Prop} {bc : ByteArray} {pc pc' : Nat} {Ls Ls' : Array Slot} {st : List Value}
variable {Z : State} {a0 : Array Value} {h h0 : Heap} {n0 : Nat}
abbrev OwnMet (l : Launch) (Z : State) (y : MethodName) (bytes : ByteArray) (maxL : Nat) (rt : Option FieldType) (ws : List Jvm.Cond) (rm : Room) (as' : Array Value) (h0 : Heap) (Qc : Option Value → Heap → List Loc → Prop) : Prop :=
  MetFree l y (head1 (Jvm.Cond.code y bytes maxL rt :: ws) rm) (fun a U => a = as' ∧ Z.Warmed39 U.vm ∧ U.heap = h0) (fun _ _ _ _ _ => True) (fun _ U o U' => ∃ v L, o = .returned v ∧ Qc v U'.heap L ∧ FrameEnd U o U' L rm.cells rm.slots)
theorem own_body {y : MethodName} {bytes : ByteArray} {maxL : Nat} {rt : Option FieldType} {ws : List Jvm.Cond} {rm : Room} {as' : Array Value} {Qc : Option Value → Heap → List Loc → Prop} {Ls0 : Array Slot} (hpl : plainFor y = true) (hef : ∀ m : MethodId, entryFrame m as' maxL = mkF m 0 Ls0 [])
    (body : ∀ (p : Program) (e : Env) (s : State) (m : MethodId) (below : List Frame) (meth : Method) (c : Code) (s₁ : State), Stand p l e rm s m as' below meth c s₁ [] 0 0 → p.tables.exec = Jvm.exec → c.code = bytes → c.maxLocals = maxL → s.vm.findClass y.cls = some m.cls → meth.name = y.name → meth.sig.returnType = rt → meth.locks = false → Z.Warmed39 s.vm → s₁.heap = h0 → Ends p.tables e below (OwnFin s Qc rm.cells rm.slots) (s₁.setTop (mkF m 0 Ls0 []))) :
    OwnMet l Z y bytes maxL rt ws rm as' h0 Qc := by
  refine MetFree.of_bodySF hpl hisR ?_
  intro p e s m args below meth c s₁ Bd hml0 hP hK
  obtain ⟨rfl, hZ, hh⟩ := hP
  have e0 : s₁.heap = h0 := by rw [← hh, Bd.state]; rfl
  rw [hef]
  exact body p e s m below meth c s₁ (Stand.of_body Bd) Bd.exec Bd.bytes hml0 (findClass_of_methodNamed Bd.named) (name_of_methodNamed Bd.named Bd.method).1 Bd.returns Bd.notSynchronized hZ e0
theorem own_static (X : Stand p l e R s m args below meth c T locs cells slots) (hx : p.tables.exec = Jvm.exec) (hby : c.code = bc) (hZ : Z.Warmed39 s.vm) {own : String} {index : Nat} {y : MethodName} {bytes : ByteArray} {maxL : Nat} {rt r : Option FieldType} {ps : List FieldType} {rm : Room} {argsL rest : List Value} {Qc : Option Value → Heap → List Loc → Prop} {W : Nat}
    (hown : s.vm.findClass own = some m.cls) (w1 : (Jvm.Cond.methodLink own index y).before a0 Z = true) (w2 : (Jvm.Cond.static y).before a0 Z = true) (w3 : (Jvm.Cond.initialized y.cls).before a0 Z = true) (w4 : (Jvm.Cond.code y bytes maxL rt).before a0 Z = true) (hy : y.cls ≠ "java/lang/invoke/MethodHandle" ∧ y.cls ≠ "java/lang/invoke/VarHandle")
    (hM : OwnMet l Z y bytes maxL rt [] rm argsL.toArray h Qc) (eT : T.heap = h) (hml : Ls.size = c.maxLocals) (hlen : parseMethodDescriptor y.desc = some ⟨ps, r⟩) (hl : argsL.length = ps.length) (hf : rm.frames + 1 ≤ R.frames) (hW : (rest.map fun v => v.category).sum ≤ W) (hlo : W + (maxL + 11) + rm.locals ≤ R.locals) (hc : cells + rm.cells ≤ R.cells) (hs : slots + rm.slots ≤ R.slots)
    (hd : decode bc pc = .ok (.invokestatic index, 3)) (hp : pc + 3 = pc') (hst : st = argsL.reverse ++ rest)
    (kt : ∀ v T' L, Stand p l e R s m args below meth c T' (locs ++ L) (cells + rm.cells) (slots + rm.slots) → Qc v T'.heap L → Ends p.tables e below Fz (T'.setTop (mkF m pc' Ls (v.toList ++ rest)))) : Ends p.tables e below Fz (T.setTop (mkF m pc Ls st)) := by
  subst hp hst
  obtain ⟨v, vm₁, ⟨T', L', k', n'⟩, -, X', ⟨Lc, hQ, l', y', z'⟩, st⟩ := Jvm.LawKit.callS X hx (y := y) hown (mvT hZ w1) (mvT hZ w2) (mvT hZ w3) (mvT hZ w4) hy (backOf (W := W) hM hZ w4 w3 hf hlo) (g := mkF m pc Ls (argsL.reverse ++ rest)) rfl hml (argsL := argsL) (rest := rest) (lenOf hlen hl) rfl (by show 2 * 0 + _ ≤ _; omega) (hb hby hd) (fun _ _ => ⟨rfl, eT, hc, hs⟩)
  dsimp only [Pt.U, Pt.locs, Pt.cells, Pt.slots] at X' l' y' z' st hQ
  subst l' y' z'
  exact Ends.of st (kt v T' Lc X' hQ)
end OwnH

def own_dig (c : Int32) : Int32 := if 48 ≤ c.toInt ∧ c.toInt ≤ 57 then 1 else 0
theorem own_dig1 {c : Int32} (h1 : 48 ≤ c.toInt) (h2 : c.toInt ≤ 57) : some (Value.int 1) = some (Value.int (own_dig c)) := by rw [own_dig, if_pos ⟨h1, h2⟩]
theorem own_dig0 {c : Int32} (h : ¬ (48 ≤ c.toInt ∧ c.toInt ≤ 57)) : some (Value.int 0) = some (Value.int (own_dig c)) := by rw [own_dig, if_neg h]
theorem own_ne {c d : Int32} (k : Int) (hd : d.toInt = k) (h : ¬ c = d) : c.toInt ≠ k := fun q => h (Int32.toInt_inj.mp (q.trans hd.symm))
theorem tw_0 : (Jvm.Cond.methodLink "com/example/latticework/latticework/whilelang/DecimalIsDigitPinLaw" (7 : Nat) ({ cls := "com/example/latticework/latticework/whilelang/Decimal", name := "isDigit", desc := "(I)Z" } : Jvm.MethodName)) ∈ tables_1 := List.mem_of_getElem? (i := 0) rfl
theorem tw_1 : (Jvm.Cond.static ({ cls := "com/example/latticework/latticework/whilelang/Decimal", name := "isDigit", desc := "(I)Z" } : Jvm.MethodName)) ∈ tables_1 := List.mem_of_getElem? (i := 1) rfl
theorem tw_2 : (Jvm.Cond.initialized "com/example/latticework/latticework/whilelang/Decimal") ∈ tables_1 := List.mem_of_getElem? (i := 2) rfl
theorem tw_3 : (Jvm.Cond.code ({ cls := "com/example/latticework/latticework/whilelang/Decimal", name := "isDigit", desc := "(I)Z" } : Jvm.MethodName) prog_82_method_2_code (1 : Nat) (Option.some Jvm.ClassFile.FieldType.boolean)) ∈ tables_1 := List.mem_of_getElem? (i := 3) rfl
theorem tw_4 : (Jvm.Cond.methodLink "com/example/latticework/latticework/whilelang/DecimalIsDigitPinLaw" (13 : Nat) ({ cls := "com/example/latticework/latticework/whilelang/DecimalIsDigitPinLaw", name := "ref", desc := "(I)Z" } : Jvm.MethodName)) ∈ tables_1 := List.mem_of_getElem? (i := 4) rfl
theorem tw_5 : (Jvm.Cond.static ({ cls := "com/example/latticework/latticework/whilelang/DecimalIsDigitPinLaw", name := "ref", desc := "(I)Z" } : Jvm.MethodName)) ∈ tables_1 := List.mem_of_getElem? (i := 5) rfl
theorem tw_6 : (Jvm.Cond.initialized "com/example/latticework/latticework/whilelang/DecimalIsDigitPinLaw") ∈ tables_1 := List.mem_of_getElem? (i := 6) rfl
theorem tw_7 : (Jvm.Cond.code ({ cls := "com/example/latticework/latticework/whilelang/DecimalIsDigitPinLaw", name := "ref", desc := "(I)Z" } : Jvm.MethodName) method_3_code (1 : Nat) (Option.some Jvm.ClassFile.FieldType.boolean)) ∈ tables_1 := List.mem_of_getElem? (i := 7) rfl
theorem d1_0 : decode prog_82_method_2_code 0 = .ok (.iload_n 0, 1) := by decide +kernel
theorem d1_1 : decode prog_82_method_2_code 1 = .ok (.bipush 48, 2) := by decide +kernel
theorem d1_3 : decode prog_82_method_2_code 3 = .ok (.if_icmp .lt 13, 3) := by decide +kernel
theorem d1_6 : decode prog_82_method_2_code 6 = .ok (.iload_n 0, 1) := by decide +kernel
theorem d1_7 : decode prog_82_method_2_code 7 = .ok (.bipush 57, 2) := by decide +kernel
theorem d1_9 : decode prog_82_method_2_code 9 = .ok (.if_icmp .gt 7, 3) := by decide +kernel
theorem d1_12 : decode prog_82_method_2_code 12 = .ok (.iconst 1, 1) := by decide +kernel
theorem d1_13 : decode prog_82_method_2_code 13 = .ok (.goto 4, 3) := by decide +kernel
theorem d1_16 : decode prog_82_method_2_code 16 = .ok (.iconst 0, 1) := by decide +kernel
theorem d1_17 : decode prog_82_method_2_code 17 = .ok (.ireturn, 1) := by decide +kernel
theorem d2_0 : decode method_3_code 0 = .ok (.iload_n 0, 1) := by decide +kernel
theorem d2_1 : decode method_3_code 1 = .ok (.bipush 48, 2) := by decide +kernel
theorem d2_3 : decode method_3_code 3 = .ok (.if_icmp .eq 57, 3) := by decide +kernel
theorem d2_6 : decode method_3_code 6 = .ok (.iload_n 0, 1) := by decide +kernel
theorem d2_7 : decode method_3_code 7 = .ok (.bipush 49, 2) := by decide +kernel
theorem d2_9 : decode method_3_code 9 = .ok (.if_icmp .eq 51, 3) := by decide +kernel
theorem d2_12 : decode method_3_code 12 = .ok (.iload_n 0, 1) := by decide +kernel
theorem d2_13 : decode method_3_code 13 = .ok (.bipush 50, 2) := by decide +kernel
theorem d2_15 : decode method_3_code 15 = .ok (.if_icmp .eq 45, 3) := by decide +kernel
theorem d2_18 : decode method_3_code 18 = .ok (.iload_n 0, 1) := by decide +kernel
theorem d2_19 : decode method_3_code 19 = .ok (.bipush 51, 2) := by decide +kernel
theorem d2_21 : decode method_3_code 21 = .ok (.if_icmp .eq 39, 3) := by decide +kernel
theorem d2_24 : decode method_3_code 24 = .ok (.iload_n 0, 1) := by decide +kernel
theorem d2_25 : decode method_3_code 25 = .ok (.bipush 52, 2) := by decide +kernel
theorem d2_27 : decode method_3_code 27 = .ok (.if_icmp .eq 33, 3) := by decide +kernel
theorem d2_30 : decode method_3_code 30 = .ok (.iload_n 0, 1) := by decide +kernel
theorem d2_31 : decode method_3_code 31 = .ok (.bipush 53, 2) := by decide +kernel
theorem d2_33 : decode method_3_code 33 = .ok (.if_icmp .eq 27, 3) := by decide +kernel
theorem d2_36 : decode method_3_code 36 = .ok (.iload_n 0, 1) := by decide +kernel
theorem d2_37 : decode method_3_code 37 = .ok (.bipush 54, 2) := by decide +kernel
theorem d2_39 : decode method_3_code 39 = .ok (.if_icmp .eq 21, 3) := by decide +kernel
theorem d2_42 : decode method_3_code 42 = .ok (.iload_n 0, 1) := by decide +kernel
theorem d2_43 : decode method_3_code 43 = .ok (.bipush 55, 2) := by decide +kernel
theorem d2_45 : decode method_3_code 45 = .ok (.if_icmp .eq 15, 3) := by decide +kernel
theorem d2_48 : decode method_3_code 48 = .ok (.iload_n 0, 1) := by decide +kernel
theorem d2_49 : decode method_3_code 49 = .ok (.bipush 56, 2) := by decide +kernel
theorem d2_51 : decode method_3_code 51 = .ok (.if_icmp .eq 9, 3) := by decide +kernel
theorem d2_54 : decode method_3_code 54 = .ok (.iload_n 0, 1) := by decide +kernel
theorem d2_55 : decode method_3_code 55 = .ok (.bipush 57, 2) := by decide +kernel
theorem d2_57 : decode method_3_code 57 = .ok (.if_icmp .ne 7, 3) := by decide +kernel
theorem d2_60 : decode method_3_code 60 = .ok (.iconst 1, 1) := by decide +kernel
theorem d2_61 : decode method_3_code 61 = .ok (.goto 4, 3) := by decide +kernel
theorem d2_64 : decode method_3_code 64 = .ok (.iconst 0, 1) := by decide +kernel
theorem d2_65 : decode method_3_code 65 = .ok (.ireturn, 1) := by decide +kernel
theorem pd_0 : parseMethodDescriptor "(I)Z" = some ⟨[.int], some .boolean⟩ := by decide +kernel
theorem pn_0 : plainName "com/example/latticework/latticework/whilelang/Decimal" = true := by first | (simp [plainName, overriddenIn]; done) | decide +kernel
theorem pn_1 : plainName "com/example/latticework/latticework/whilelang/DecimalIsDigitPinLaw" = true := by first | (simp [plainName, overriddenIn]; done) | decide +kernel
theorem ef_1 (m : MethodId) (x0 : Int32) : entryFrame m #[(.int x0)] 1 = mkF m 0 #[.val (.int x0)] [] := by first | (simp [entryFrame, mkF, argsToLocals, Value.category]; done) | rfl
theorem ef_2 (m : MethodId) (x0 : Int32) : entryFrame m #[(.int x0)] 1 = mkF m 0 #[.val (.int x0)] [] := by first | (simp [entryFrame, mkF, argsToLocals, Value.category]; done) | rfl
theorem ef_0 (m : MethodId) (x0 : Int32) (x1 : Int32) : entryFrame m #[(.int x0), (.int x1)] maxLocals = mkF m 0 #[.val (.int x0), .val (.int x1), .unset, .unset, .unset] [] := by first | (simp [entryFrame, mkF, argsToLocals, Value.category, maxLocals]; done) | rfl
set_option maxRecDepth 65536 in
set_option maxHeartbeats 40000000 in
theorem rm1 (l : Launch) (Z : State) (a0 : Array Value) (hw : ∀ d ∈ tables_1, d.before a0 Z = true) (x0 : Int32) (h0 : Heap) :
    OwnMet l Z (⟨"com/example/latticework/latticework/whilelang/Decimal", "isDigit", "(I)Z"⟩ : MethodName) prog_82_method_2_code 1 (some .boolean) [] ({ frames := 0, cells := 0, slots := 0, locals := 0 } : Room) #[(.int x0)] h0 (fun v h L => v = some (.int (own_dig x0)) ∧ L = [] ∧ h = h0) := by
  refine own_body (plainFor_of_name pn_0) (fun m => ef_1 m x0) ?_
  intro p e s m below meth c s₁ X0 hx hby hml hown hnm hret hlk hZ e0
  replace hown : s.vm.findClass "com/example/latticework/latticework/whilelang/Decimal" = some m.cls := hown
  replace hml : c.maxLocals = 1 := hml
  show Ends p.tables e below _ (s₁.setTop (mkF m 0 #[.val (.int x0)] []))
  refine own_iloadN X0 hx hby d1_0 rfl rfl ?_
  refine own_bipush X0 hx hby d1_1 rfl (48 : Int32) rfl ?_
  refine own_icmp_lt X0 hx hby d1_3 (pcY := 16) (pcN := 6) (by decide) rfl (fun (hc1 : x0.toInt < 48) => ?_) (fun (hc1 : 48 ≤ x0.toInt) => ?_)
  · -- pc 3: t
    refine own_iconst X0 hx hby d1_16 rfl (0 : Int32) rfl ?_
    refine own_ret X0 hx hby hret hlk d1_17 (.int (0 : Int32)) rfl (Or.inl ⟨rfl, by simp, _, rfl⟩) (by decide) (by decide) ?_
    refine ⟨?_, rfl, e0⟩
    first | exact own_dig1 (by omega) (by omega) | exact own_dig0 (by omega)
  · -- pc 3: f
    refine own_iloadN X0 hx hby d1_6 rfl rfl ?_
    refine own_bipush X0 hx hby d1_7 rfl (57 : Int32) rfl ?_
    refine own_icmp_gt X0 hx hby d1_9 (pcY := 16) (pcN := 12) (by decide) rfl (fun (hc2 : 57 < x0.toInt) => ?_) (fun (hc2 : x0.toInt ≤ 57) => ?_)
    · -- pc 9: t
      refine own_iconst X0 hx hby d1_16 rfl (0 : Int32) rfl ?_
      refine own_ret X0 hx hby hret hlk d1_17 (.int (0 : Int32)) rfl (Or.inl ⟨rfl, by simp, _, rfl⟩) (by decide) (by decide) ?_
      refine ⟨?_, rfl, e0⟩
      first | exact own_dig1 (by omega) (by omega) | exact own_dig0 (by omega)
    · -- pc 9: f
      refine own_iconst X0 hx hby d1_12 rfl (1 : Int32) rfl ?_
      refine own_goto X0 hx hby d1_13 (pc' := 17) (by decide) ?_
      refine own_ret X0 hx hby hret hlk d1_17 (.int (1 : Int32)) rfl (Or.inl ⟨rfl, by simp, _, rfl⟩) (by decide) (by decide) ?_
      refine ⟨?_, rfl, e0⟩
      first | exact own_dig1 (by omega) (by omega) | exact own_dig0 (by omega)
set_option maxRecDepth 65536 in
set_option maxHeartbeats 40000000 in
theorem rm2 (l : Launch) (Z : State) (a0 : Array Value) (hw : ∀ d ∈ tables_1, d.before a0 Z = true) (x0 : Int32) (h0 : Heap) :
    OwnMet l Z (⟨"com/example/latticework/latticework/whilelang/DecimalIsDigitPinLaw", "ref", "(I)Z"⟩ : MethodName) method_3_code 1 (some .boolean) [] ({ frames := 0, cells := 0, slots := 0, locals := 0 } : Room) #[(.int x0)] h0 (fun v h L => v = some (.int (own_dig x0)) ∧ L = [] ∧ h = h0) := by
  refine own_body (plainFor_of_name pn_1) (fun m => ef_2 m x0) ?_
  intro p e s m below meth c s₁ X0 hx hby hml hown hnm hret hlk hZ e0
  replace hown : s.vm.findClass "com/example/latticework/latticework/whilelang/DecimalIsDigitPinLaw" = some m.cls := hown
  replace hml : c.maxLocals = 1 := hml
  show Ends p.tables e below _ (s₁.setTop (mkF m 0 #[.val (.int x0)] []))
  refine own_iloadN X0 hx hby d2_0 rfl rfl ?_
  refine own_bipush X0 hx hby d2_1 rfl (48 : Int32) rfl ?_
  refine own_icmp_eq X0 hx hby d2_3 (pcY := 60) (pcN := 6) (by decide) rfl (fun (hc3 : x0 = (48 : Int32)) => ?_) (fun (hc3 : ¬ x0 = (48 : Int32)) => ?_)
  · -- pc 3: t
    subst hc3
    refine own_iconst X0 hx hby d2_60 rfl (1 : Int32) rfl ?_
    refine own_goto X0 hx hby d2_61 (pc' := 65) (by decide) ?_
    refine own_ret X0 hx hby hret hlk d2_65 (.int (1 : Int32)) rfl (Or.inl ⟨rfl, by simp, _, rfl⟩) (by decide) (by decide) ?_
    refine ⟨?_, rfl, e0⟩
    rfl
  · -- pc 3: f
    have hc3' := own_ne 48 rfl hc3
    refine own_iloadN X0 hx hby d2_6 rfl rfl ?_
    refine own_bipush X0 hx hby d2_7 rfl (49 : Int32) rfl ?_
    refine own_icmp_eq X0 hx hby d2_9 (pcY := 60) (pcN := 12) (by decide) rfl (fun (hc4 : x0 = (49 : Int32)) => ?_) (fun (hc4 : ¬ x0 = (49 : Int32)) => ?_)
    · -- pc 9: t
      subst hc4
      refine own_iconst X0 hx hby d2_60 rfl (1 : Int32) rfl ?_
      refine own_goto X0 hx hby d2_61 (pc' := 65) (by decide) ?_
      refine own_ret X0 hx hby hret hlk d2_65 (.int (1 : Int32)) rfl (Or.inl ⟨rfl, by simp, _, rfl⟩) (by decide) (by decide) ?_
      refine ⟨?_, rfl, e0⟩
      rfl
    · -- pc 9: f
      have hc4' := own_ne 49 rfl hc4
      refine own_iloadN X0 hx hby d2_12 rfl rfl ?_
      refine own_bipush X0 hx hby d2_13 rfl (50 : Int32) rfl ?_
      refine own_icmp_eq X0 hx hby d2_15 (pcY := 60) (pcN := 18) (by decide) rfl (fun (hc5 : x0 = (50 : Int32)) => ?_) (fun (hc5 : ¬ x0 = (50 : Int32)) => ?_)
      · -- pc 15: t
        subst hc5
        refine own_iconst X0 hx hby d2_60 rfl (1 : Int32) rfl ?_
        refine own_goto X0 hx hby d2_61 (pc' := 65) (by decide) ?_
        refine own_ret X0 hx hby hret hlk d2_65 (.int (1 : Int32)) rfl (Or.inl ⟨rfl, by simp, _, rfl⟩) (by decide) (by decide) ?_
        refine ⟨?_, rfl, e0⟩
        rfl
      · -- pc 15: f
        have hc5' := own_ne 50 rfl hc5
        refine own_iloadN X0 hx hby d2_18 rfl rfl ?_
        refine own_bipush X0 hx hby d2_19 rfl (51 : Int32) rfl ?_
        refine own_icmp_eq X0 hx hby d2_21 (pcY := 60) (pcN := 24) (by decide) rfl (fun (hc6 : x0 = (51 : Int32)) => ?_) (fun (hc6 : ¬ x0 = (51 : Int32)) => ?_)
        · -- pc 21: t
          subst hc6
          refine own_iconst X0 hx hby d2_60 rfl (1 : Int32) rfl ?_
          refine own_goto X0 hx hby d2_61 (pc' := 65) (by decide) ?_
          refine own_ret X0 hx hby hret hlk d2_65 (.int (1 : Int32)) rfl (Or.inl ⟨rfl, by simp, _, rfl⟩) (by decide) (by decide) ?_
          refine ⟨?_, rfl, e0⟩
          rfl
        · -- pc 21: f
          have hc6' := own_ne 51 rfl hc6
          refine own_iloadN X0 hx hby d2_24 rfl rfl ?_
          refine own_bipush X0 hx hby d2_25 rfl (52 : Int32) rfl ?_
          refine own_icmp_eq X0 hx hby d2_27 (pcY := 60) (pcN := 30) (by decide) rfl (fun (hc7 : x0 = (52 : Int32)) => ?_) (fun (hc7 : ¬ x0 = (52 : Int32)) => ?_)
          · -- pc 27: t
            subst hc7
            refine own_iconst X0 hx hby d2_60 rfl (1 : Int32) rfl ?_
            refine own_goto X0 hx hby d2_61 (pc' := 65) (by decide) ?_
            refine own_ret X0 hx hby hret hlk d2_65 (.int (1 : Int32)) rfl (Or.inl ⟨rfl, by simp, _, rfl⟩) (by decide) (by decide) ?_
            refine ⟨?_, rfl, e0⟩
            rfl
          · -- pc 27: f
            have hc7' := own_ne 52 rfl hc7
            refine own_iloadN X0 hx hby d2_30 rfl rfl ?_
            refine own_bipush X0 hx hby d2_31 rfl (53 : Int32) rfl ?_
            refine own_icmp_eq X0 hx hby d2_33 (pcY := 60) (pcN := 36) (by decide) rfl (fun (hc8 : x0 = (53 : Int32)) => ?_) (fun (hc8 : ¬ x0 = (53 : Int32)) => ?_)
            · -- pc 33: t
              subst hc8
              refine own_iconst X0 hx hby d2_60 rfl (1 : Int32) rfl ?_
              refine own_goto X0 hx hby d2_61 (pc' := 65) (by decide) ?_
              refine own_ret X0 hx hby hret hlk d2_65 (.int (1 : Int32)) rfl (Or.inl ⟨rfl, by simp, _, rfl⟩) (by decide) (by decide) ?_
              refine ⟨?_, rfl, e0⟩
              rfl
            · -- pc 33: f
              have hc8' := own_ne 53 rfl hc8
              refine own_iloadN X0 hx hby d2_36 rfl rfl ?_
              refine own_bipush X0 hx hby d2_37 rfl (54 : Int32) rfl ?_
              refine own_icmp_eq X0 hx hby d2_39 (pcY := 60) (pcN := 42) (by decide) rfl (fun (hc9 : x0 = (54 : Int32)) => ?_) (fun (hc9 : ¬ x0 = (54 : Int32)) => ?_)
              · -- pc 39: t
                subst hc9
                refine own_iconst X0 hx hby d2_60 rfl (1 : Int32) rfl ?_
                refine own_goto X0 hx hby d2_61 (pc' := 65) (by decide) ?_
                refine own_ret X0 hx hby hret hlk d2_65 (.int (1 : Int32)) rfl (Or.inl ⟨rfl, by simp, _, rfl⟩) (by decide) (by decide) ?_
                refine ⟨?_, rfl, e0⟩
                rfl
              · -- pc 39: f
                have hc9' := own_ne 54 rfl hc9
                refine own_iloadN X0 hx hby d2_42 rfl rfl ?_
                refine own_bipush X0 hx hby d2_43 rfl (55 : Int32) rfl ?_
                refine own_icmp_eq X0 hx hby d2_45 (pcY := 60) (pcN := 48) (by decide) rfl (fun (hc10 : x0 = (55 : Int32)) => ?_) (fun (hc10 : ¬ x0 = (55 : Int32)) => ?_)
                · -- pc 45: t
                  subst hc10
                  refine own_iconst X0 hx hby d2_60 rfl (1 : Int32) rfl ?_
                  refine own_goto X0 hx hby d2_61 (pc' := 65) (by decide) ?_
                  refine own_ret X0 hx hby hret hlk d2_65 (.int (1 : Int32)) rfl (Or.inl ⟨rfl, by simp, _, rfl⟩) (by decide) (by decide) ?_
                  refine ⟨?_, rfl, e0⟩
                  rfl
                · -- pc 45: f
                  have hc10' := own_ne 55 rfl hc10
                  refine own_iloadN X0 hx hby d2_48 rfl rfl ?_
                  refine own_bipush X0 hx hby d2_49 rfl (56 : Int32) rfl ?_
                  refine own_icmp_eq X0 hx hby d2_51 (pcY := 60) (pcN := 54) (by decide) rfl (fun (hc11 : x0 = (56 : Int32)) => ?_) (fun (hc11 : ¬ x0 = (56 : Int32)) => ?_)
                  · -- pc 51: t
                    subst hc11
                    refine own_iconst X0 hx hby d2_60 rfl (1 : Int32) rfl ?_
                    refine own_goto X0 hx hby d2_61 (pc' := 65) (by decide) ?_
                    refine own_ret X0 hx hby hret hlk d2_65 (.int (1 : Int32)) rfl (Or.inl ⟨rfl, by simp, _, rfl⟩) (by decide) (by decide) ?_
                    refine ⟨?_, rfl, e0⟩
                    rfl
                  · -- pc 51: f
                    have hc11' := own_ne 56 rfl hc11
                    refine own_iloadN X0 hx hby d2_54 rfl rfl ?_
                    refine own_bipush X0 hx hby d2_55 rfl (57 : Int32) rfl ?_
                    refine own_icmp_ne X0 hx hby d2_57 (pcY := 64) (pcN := 60) (by decide) rfl (fun (hc12 : ¬ x0 = (57 : Int32)) => ?_) (fun (hc12 : x0 = (57 : Int32)) => ?_)
                    · -- pc 57: t
                      have hc12' := own_ne 57 rfl hc12
                      refine own_iconst X0 hx hby d2_64 rfl (0 : Int32) rfl ?_
                      refine own_ret X0 hx hby hret hlk d2_65 (.int (0 : Int32)) rfl (Or.inl ⟨rfl, by simp, _, rfl⟩) (by decide) (by decide) ?_
                      refine ⟨?_, rfl, e0⟩
                      exact own_dig0 (by omega)
                    · -- pc 57: f
                      subst hc12
                      refine own_iconst X0 hx hby d2_60 rfl (1 : Int32) rfl ?_
                      refine own_goto X0 hx hby d2_61 (pc' := 65) (by decide) ?_
                      refine own_ret X0 hx hby hret hlk d2_65 (.int (1 : Int32)) rfl (Or.inl ⟨rfl, by simp, _, rfl⟩) (by decide) (by decide) ?_
                      refine ⟨?_, rfl, e0⟩
                      rfl
set_option maxRecDepth 65536 in
set_option maxHeartbeats 40000000 in
theorem rm0 (l : Launch) (Z : State) (a0 : Array Value) (hw : ∀ d ∈ tables_1, d.before a0 Z = true) (x0 : Int32) (x1 : Int32) (h0 : Heap) (n0 : Nat) :
    OwnMet l Z x code maxLocals ret tables_1 room_1 #[(.int x0), (.int x1)] h0 (fun v h L => v = some (.int 1) ∧ Fr n0 L) := by
  refine own_body (plainFor_of_name pn_1) (fun m => ef_0 m x0 x1) ?_
  intro p e s m below meth c s₁ X0 hx hby hml hown hnm hret hlk hZ e0
  replace hown : s.vm.findClass "com/example/latticework/latticework/whilelang/DecimalIsDigitPinLaw" = some m.cls := hown
  replace hml : c.maxLocals = 5 := hml
  have N0 := Fr.nil n0
  show Ends p.tables e below _ (s₁.setTop (mkF m 0 #[.val (.int x0), .val (.int x1), .unset, .unset, .unset] []))
  refine own_bipush X0 hx hby at_0 rfl (40 : Int32) rfl ?_
  refine own_iloadN X0 hx hby at_2 rfl rfl ?_
  refine own_bipush X0 hx hby at_3 rfl (31 : Int32) rfl ?_
  refine own_iand X0 hx hby at_5 rfl ?_
  refine own_iadd X0 hx hby at_6 rfl ?_
  refine own_istoreN X0 hx hby at_7 rfl #[.val (.int x0), .val (.int x1), .val (.int ((40 : Int32) + (x1 &&& (31 : Int32)))), .unset, .unset] rfl ?_
  refine own_iloadN X0 hx hby at_8 rfl rfl ?_
  refine own_static X0 hx hby hZ (argsL := [(.int x0)]) (rest := []) hown (hw _ tw_0) (hw _ tw_1) (hw _ tw_2) (hw _ tw_3) (by decide) (rm1 l Z a0 hw x0 h0) e0 (by rw [hml]; rfl) pd_0 rfl (by decide) (W := 0) (Nat.le_refl _) (by decide) (by decide) (by decide) at_9 rfl rfl (fun v13 T13 L13 X13 hQ13 => ?_)
  obtain ⟨rfl, rfl, e13⟩ := hQ13
  show Ends p.tables e below _ (T13.setTop (mkF m 12 #[.val (.int x0), .val (.int x1), .val (.int ((40 : Int32) + (x1 &&& (31 : Int32)))), .unset, .unset] [(.int (own_dig x0))]))
  refine own_iloadN X13 hx hby at_12 rfl rfl ?_
  refine own_static X13 hx hby hZ (argsL := [(.int x0)]) (rest := [(.int (own_dig x0))]) hown (hw _ tw_4) (hw _ tw_5) (hw _ tw_6) (hw _ tw_7) (by decide) (rm2 l Z a0 hw x0 h0) e13 (by rw [hml]; rfl) pd_0 rfl (by decide) (W := 1) (Nat.le_refl _) (by decide) (by decide) (by decide) at_13 rfl rfl (fun v14 T14 L14 X14 hQ14 => ?_)
  obtain ⟨rfl, rfl, e14⟩ := hQ14
  show Ends p.tables e below _ (T14.setTop (mkF m 16 #[.val (.int x0), .val (.int x1), .val (.int ((40 : Int32) + (x1 &&& (31 : Int32)))), .unset, .unset] [(.int (own_dig x0)), (.int (own_dig x0))]))
  refine own_icmp_ne X14 hx hby at_16 (pcY := 23) (pcN := 19) (by decide) rfl (fun (hc15 : ¬ (own_dig x0) = (own_dig x0)) => False.elim (by exact hc15 rfl)) (fun (hc15 : (own_dig x0) = (own_dig x0)) => ?_)
  refine own_iconst X14 hx hby at_19 rfl (1 : Int32) rfl ?_
  refine own_goto X14 hx hby at_20 (pc' := 24) (by decide) ?_
  refine own_istoreN X14 hx hby at_24 rfl #[.val (.int x0), .val (.int x1), .val (.int ((40 : Int32) + (x1 &&& (31 : Int32)))), .val (.int (1 : Int32)), .unset] rfl ?_
  refine own_iloadN X14 hx hby at_25 rfl rfl ?_
  refine own_static X14 hx hby hZ (argsL := [(.int ((40 : Int32) + (x1 &&& (31 : Int32))))]) (rest := []) hown (hw _ tw_0) (hw _ tw_1) (hw _ tw_2) (hw _ tw_3) (by decide) (rm1 l Z a0 hw ((40 : Int32) + (x1 &&& (31 : Int32))) h0) e14 (by rw [hml]; rfl) pd_0 rfl (by decide) (W := 0) (Nat.le_refl _) (by decide) (by decide) (by decide) at_26 rfl rfl (fun v16 T16 L16 X16 hQ16 => ?_)
  obtain ⟨rfl, rfl, e16⟩ := hQ16
  show Ends p.tables e below _ (T16.setTop (mkF m 29 #[.val (.int x0), .val (.int x1), .val (.int ((40 : Int32) + (x1 &&& (31 : Int32)))), .val (.int (1 : Int32)), .unset] [(.int (own_dig ((40 : Int32) + (x1 &&& (31 : Int32)))))]))
  refine own_iloadN X16 hx hby at_29 rfl rfl ?_
  refine own_static X16 hx hby hZ (argsL := [(.int ((40 : Int32) + (x1 &&& (31 : Int32))))]) (rest := [(.int (own_dig ((40 : Int32) + (x1 &&& (31 : Int32)))))]) hown (hw _ tw_4) (hw _ tw_5) (hw _ tw_6) (hw _ tw_7) (by decide) (rm2 l Z a0 hw ((40 : Int32) + (x1 &&& (31 : Int32))) h0) e16 (by rw [hml]; rfl) pd_0 rfl (by decide) (W := 1) (Nat.le_refl _) (by decide) (by decide) (by decide) at_30 rfl rfl (fun v17 T17 L17 X17 hQ17 => ?_)
  obtain ⟨rfl, rfl, e17⟩ := hQ17
  show Ends p.tables e below _ (T17.setTop (mkF m 33 #[.val (.int x0), .val (.int x1), .val (.int ((40 : Int32) + (x1 &&& (31 : Int32)))), .val (.int (1 : Int32)), .unset] [(.int (own_dig ((40 : Int32) + (x1 &&& (31 : Int32))))), (.int (own_dig ((40 : Int32) + (x1 &&& (31 : Int32)))))]))
  refine own_icmp_ne X17 hx hby at_33 (pcY := 40) (pcN := 36) (by decide) rfl (fun (hc18 : ¬ (own_dig ((40 : Int32) + (x1 &&& (31 : Int32)))) = (own_dig ((40 : Int32) + (x1 &&& (31 : Int32))))) => False.elim (by exact hc18 rfl)) (fun (hc18 : (own_dig ((40 : Int32) + (x1 &&& (31 : Int32)))) = (own_dig ((40 : Int32) + (x1 &&& (31 : Int32))))) => ?_)
  refine own_iconst X17 hx hby at_36 rfl (1 : Int32) rfl ?_
  refine own_goto X17 hx hby at_37 (pc' := 41) (by decide) ?_
  refine own_istore X17 hx hby at_41 rfl #[.val (.int x0), .val (.int x1), .val (.int ((40 : Int32) + (x1 &&& (31 : Int32)))), .val (.int (1 : Int32)), .val (.int (1 : Int32))] rfl ?_
  refine own_iloadN X17 hx hby at_43 rfl rfl ?_
  refine own_if_eq X17 hx hby at_44 (pcY := 56) (pcN := 47) (by decide) rfl (fun (hc19 : (1 : Int32) = (0 : Int32)) => False.elim (by exact absurd hc19 (by decide))) (fun (hc19 : ¬ (1 : Int32) = (0 : Int32)) => ?_)
  refine own_iload X17 hx hby at_47 rfl rfl ?_
  refine own_if_eq X17 hx hby at_49 (pcY := 56) (pcN := 52) (by decide) rfl (fun (hc20 : (1 : Int32) = (0 : Int32)) => False.elim (by exact absurd hc20 (by decide))) (fun (hc20 : ¬ (1 : Int32) = (0 : Int32)) => ?_)
  refine own_iconst X17 hx hby at_52 rfl (1 : Int32) rfl ?_
  refine own_goto X17 hx hby at_53 (pc' := 57) (by decide) ?_
  refine own_ret X17 hx hby hret hlk at_57 (.int (1 : Int32)) rfl (Or.inl ⟨rfl, by simp, _, rfl⟩) (by decide) (by decide) ?_
  exact ⟨rfl, (Fr.app (Fr.app (Fr.app (Fr.app N0 (Fr.nil _)) (Fr.nil _)) (Fr.nil _)) (Fr.nil _))⟩
set_option maxRecDepth 65536 in
set_option maxHeartbeats 40000000 in
theorem comes_1 {Post : Tables → Env → Array Value → State → Outcome → State → Prop} (hpost : ∀ tb e args s v u, (limb_1_1.after args s (.returned v) u = true ∧ limb_1_2.after args s (.returned v) u = true ∧ True) → FrameEnd s (.returned v) u (Jvm.fieldLocs frame_1_writes args s ++ Jvm.arrayLocs frame_1_arrays args s ++ Jvm.staticLocs frame_1_statics s) 0 0 → Post tb e args s (.returned v) u) :
    ArmFor flags0 classFile x code maxLocals ret World_1 tables_1 room_1 Calls_1 rest_1 Pre_1 Post := by
  intro l hfl _ _ p e ha hc hk s m args below hf hA hF happ hP
  obtain ⟨hcalls, hrest, hpre⟩ := hP
  obtain ⟨-, -, -, hnamed, -, -, -, hat⟩ := (Spec.applies_iff hf).mp happ
  obtain ⟨hg, hn⟩ := and_e (Cond.before_iff.mp (show (Jvm.Cond.and given_1 narrow_1).before args s = true from hpre))
  obtain ⟨hcount, hg0⟩ := and_e hg
  obtain ⟨hv0, hg1⟩ := and_e hg0
  have hv1 := hg1
  obtain ⟨w0, w1, rfl⟩ : ∃ w0 w1 : Value, args = #[w0, w1] := by
    have hs : args.size = 2 := by simpa [Cond.value, given_1] using hcount
    obtain ⟨L⟩ := args
    match L, hs with
    | [w0, w1], _ => exact ⟨w0, w1, rfl⟩
  have hw := fun d (hd : d ∈ tables_1) => atoms_spec (ws := Jvm.Cond.code x code maxLocals ret :: tables_1) hat d (List.mem_cons_of_mem _ hd)
  have hfit : Fit s := fun {y c} hc i hi => by
    obtain ⟨ha, rfl⟩ := Array.getElem?_eq_some_iff.mp hc
    have q := List.all_eq_true.mp ((Array.all_eq_true_iff_forall_mem.mp hF) _ (Array.getElem_mem ha)) i (List.mem_range.mpr hi)
    simpa [Array.getElem?_eq_getElem hi] using q
  obtain ⟨i0, ei0⟩ := is_v hv0
  obtain rfl : w0 = (.int i0) := Option.some.inj ei0
  obtain ⟨i1, ei1⟩ := is_v hv1
  obtain rfl : w1 = (.int i1) := Option.some.inj ei1
  obtain ⟨n, o, h1, h2, h3, _, L, rfl, ⟨rfl, N⟩, hq⟩ := rm0 l s _ hw i0 i1 s.heap s.heap.size p e ha hc hk s m _ below hf ((Spec.applies_iff_loose hf).mp happ).1 ⟨rfl, State.Warmed39.refl s, rfl⟩ trivial
  refine ⟨n, _, h1, h2, h3, hpost _ _ _ _ _ _ ⟨Cond.after_iff.mpr rfl, Cond.after_iff.mpr (eq_i res_at (Term.int_eval (1)) rfl), trivial⟩ ⟨hq.1, hq.2.1, (hq.2.2.sift fun y hy => Or.inr (N y hy)).mono (by decide) (by decide)⟩⟩
theorem main_1_1 : Claimed_1_1 := comes_1 fun _ _ _ _ _ _ h hF => ⟨h.1, hF⟩
theorem main_1_2 : Claimed_1_2 := comes_1 fun _ _ _ _ _ _ h hF => ⟨h.2.1, hF⟩
end Jvm.Pilot.@@N@@
namespace Jvm.Pilot.@@N@@
open Jvm Jvm.ClassFile Sem Op Lib Jvm.Free Jvm.Stand Jvm.Pilot.@@N@@.Jvm.D
/-! MADE BY PROGRAM (witnessworld.py) out of the Statement's table words and the real class files: 9 classes; the members and pool entries that the words name. The judged class is class 1, her method 1. -/
namespace start1
open Jvm.ClassFile
def u (s : String) : CpInfo := .utf8 (stringToUtf16 s)
/-- a pool by its gaps: so many unusable entries, then the entry; so many at the end -/
def gap : Nat → List CpInfo → List CpInfo
  | 0, r => r
  | n + 1, r => .unusable :: gap n r
def poolList (es : List (Nat × CpInfo)) (last : Nat) : List CpInfo := es.foldr (fun e r => gap e.1 (e.2 :: r)) (gap last [])
def pool (es : List (Nat × CpInfo)) (last : Nat) : Array CpInfo := ⟨poolList es last⟩
def fileOf (pool : Array CpInfo) (this : Nat) (attrs : Array Attribute := #[]) (ms : Array MethodInfo := #[]) (fl : Nat := 33) (sup : Nat := 0) (ifs : Array Nat := #[]) (fds : Array FieldInfo := #[]) : ClassFile where
  minorVersion := 0
  majorVersion := 65
  constantPool := pool
  accessFlags := fl
  thisClass := this
  superClass := sup
  interfaces := ifs
  fields := fds
  methods := ms
  attributes := attrs
def plain (name : String) (sup : Option ClassId) : Class where
  name := name
  kind := .ordinary
  loader := none
  accessFlags := 33
  super := sup
  interfaces := #[]
  cf := none
  fields := #[]
  methods := #[]
  instanceTypes := #[]
  staticTypes := #[]
  resolved := #[]
  callSites := []
  init := .initialized
  statics := none
  mirror := none

def pool0 : Array CpInfo := pool [(5, u "<init>"), (0, u "()V"), (1, .class_ 10), (1, u "java/lang/Object")] 113

def k0m0 : Method := { name := "<init>", desc := "()V", sig := { parameters := [], returnType := none }, accessFlags := 1, code := none }
/-- java/lang/Object -/
def k0 : Class := { plain "java/lang/Object" none with
  accessFlags := 33
  interfaces := #[]
  cf := some (fileOf pool0 8 #[] #[{ accessFlags := 1, nameIndex := 5, descriptorIndex := 6, attributes := #[] }] 33 0 #[] #[])
  fields := #[]
  methods := #[k0m0]
  instanceTypes := #[]
  staticTypes := #[]
  resolved := Array.replicate 124 none
  statics := none }

def pool1 : Array CpInfo := pool [(2, .class_ 4), (1, u "java/lang/Object"), (0, u "<init>"), (0, u "()V"), (0, .methodref 8 9), (0, .class_ 10), (0, .nameAndType 11 12), (0, u "com/example/latticework/latticework/whilelang/Decimal"), (0, u "isDigit"), (0, u "(I)Z"), (0, .methodref 14 15), (0, .class_ 16), (0, .nameAndType 17 12), (0, u "com/example/latticework/latticework/whilelang/DecimalIsDigitPinLaw"), (0, u "ref"), (2, u "law"), (0, u "(II)Z")] 3

def k1m0 : Method := { name := "<init>", desc := "()V", sig := { parameters := [], returnType := none }, accessFlags := 1, code := none }
def k1c1 : Code := { maxStack := 3, maxLocals := 5, code := code, exceptionTable := #[], attributes := #[] }
def k1m1 : Method := { name := "law", desc := "(II)Z", sig := { parameters := [.int, .int], returnType := some .boolean }, accessFlags := 9, code := some k1c1 }
def k1c2 : Code := { maxStack := 2, maxLocals := 1, code := method_3_code, exceptionTable := #[], attributes := #[] }
def k1m2 : Method := { name := "ref", desc := "(I)Z", sig := { parameters := [.int], returnType := some .boolean }, accessFlags := 10, code := some k1c2 }
/-- com/example/latticework/latticework/whilelang/DecimalIsDigitPinLaw -/
def k1 : Class := { plain "com/example/latticework/latticework/whilelang/DecimalIsDigitPinLaw" (some 0) with
  accessFlags := 49
  interfaces := #[]
  cf := some (fileOf pool1 14 #[] #[{ accessFlags := 1, nameIndex := 5, descriptorIndex := 6, attributes := #[] }, { accessFlags := 9, nameIndex := 20, descriptorIndex := 21, attributes := #[] }, { accessFlags := 10, nameIndex := 17, descriptorIndex := 12, attributes := #[] }] 49 2 #[] #[])
  fields := #[]
  methods := #[k1m0, k1m1, k1m2]
  instanceTypes := #[]
  staticTypes := #[]
  resolved := Array.replicate 25 none
  statics := none }

def pool2 : Array CpInfo := pool [(2, .class_ 4), (1, u "java/lang/Object"), (0, u "<init>"), (0, u "()V"), (41, .class_ 49), (0, u "com/example/latticework/latticework/whilelang/Decimal"), (2, u "isDigit"), (0, u "(I)Z")] 30

def k2m0 : Method := { name := "<init>", desc := "()V", sig := { parameters := [], returnType := none }, accessFlags := 2, code := none }
def k2c1 : Code := { maxStack := 2, maxLocals := 1, code := prog_82_method_2_code, exceptionTable := #[], attributes := #[] }
def k2m1 : Method := { name := "isDigit", desc := "(I)Z", sig := { parameters := [.int], returnType := some .boolean }, accessFlags := 8, code := some k2c1 }
/-- com/example/latticework/latticework/whilelang/Decimal -/
def k2 : Class := { plain "com/example/latticework/latticework/whilelang/Decimal" (some 0) with
  accessFlags := 48
  interfaces := #[]
  cf := some (fileOf pool2 48 #[] #[{ accessFlags := 2, nameIndex := 5, descriptorIndex := 6, attributes := #[] }, { accessFlags := 8, nameIndex := 52, descriptorIndex := 53, attributes := #[] }] 48 2 #[] #[])
  fields := #[]
  methods := #[k2m0, k2m1]
  instanceTypes := #[]
  staticTypes := #[]
  resolved := Array.replicate 84 none
  statics := none }

def pool3 : Array CpInfo := pool [(1, u "java/lang/Cloneable"), (0, .class_ 1), (0, u "java/lang/Object"), (0, .class_ 3)] 3

/-- java/lang/Cloneable -/
def k3 : Class := { plain "java/lang/Cloneable" (some 0) with
  accessFlags := 1537
  interfaces := #[]
  cf := some (fileOf pool3 2 #[] #[] 1537 4 #[] #[])
  fields := #[]
  methods := #[]
  instanceTypes := #[]
  staticTypes := #[]
  resolved := Array.replicate 8 none
  statics := none }

def pool4 : Array CpInfo := pool [(1, u "java/io/Serializable"), (0, .class_ 1), (0, u "java/lang/Object"), (0, .class_ 3)] 3

/-- java/io/Serializable -/
def k4 : Class := { plain "java/io/Serializable" (some 0) with
  accessFlags := 1537
  interfaces := #[]
  cf := some (fileOf pool4 2 #[] #[] 1537 4 #[] #[])
  fields := #[]
  methods := #[]
  instanceTypes := #[]
  staticTypes := #[]
  resolved := Array.replicate 8 none
  statics := none }

/-- the primitive byte -/
def k5 : Class := { plain "byte" none with kind := .primitive 'B', accessFlags := 0x411 }
/-- [B -/
def k6 : Class := { plain "[B" (some 0) with kind := .array 5 .byte, interfaces := #[3, 4], accessFlags := 1041 }

/-- the primitive int -/
def k7 : Class := { plain "int" none with kind := .primitive 'I', accessFlags := 0x411 }
/-- [I -/
def k8 : Class := { plain "[I" (some 0) with kind := .array 7 .int, interfaces := #[3, 4], accessFlags := 1041 }

def heap : Heap := #[]
def classes : Array Class := #[k0, k1, k2, k3, k4, k5, k6, k7, k8]
def interned : List (Array UInt16 × Addr) := []
def slotsUsed : Nat := 0
def theMethod : MethodId := ⟨1, 1⟩
def args0 : Array Value := #[.int 5, .int 5]
def aboutOver (below : List Frame) : State where
  vm := { classes := classes, interned := interned.toArray }
  heap := heap
  slotsUsed := slotsUsed
  threads := #[{ frames := .invoking theMethod args0 :: below }]
def below0 : List Frame := [.native { method := ⟨0, 0⟩, args := #[] }]
def about1 : State := aboutOver below0
def p0 : Program := .bare "" "" ""
def e0 : Env := launch0.env 0 0 0
theorem w_frames : about1.frames = Frame.invoking theMethod args0 :: below0 := rfl
set_option maxRecDepth 65536 in
theorem w_args : argsFit about1.vm theMethod args0 = true := by decide +kernel
set_option maxRecDepth 65536 in
theorem w_heap : heapFits about1 = true := by decide +kernel
set_option maxRecDepth 65536 in
theorem w_runnable : about1.curStatus? = some .runnable := by decide +kernel
set_option maxRecDepth 65536 in
theorem w_alone : about1.alone = true := by decide +kernel
set_option maxRecDepth 65536 in
theorem w_named : about1.methodNamed? x = some theMethod := by decide +kernel
set_option maxRecDepth 65536 in
theorem w_hears : about1.hears theMethod below0 = true := by decide +kernel
set_option maxRecDepth 65536 in
theorem w_ripe : about1.ripe theMethod args0 below0 = true := by decide +kernel
theorem w_running : about1.status = .running := rfl
set_option maxRecDepth 65536 in
theorem w_room : about1.hasRoom e0.platform room_1 = true :=
  launch0.hasRoom_least _ room_1 (by decide +kernel) (by decide +kernel) (by decide +kernel) (by decide +kernel) (by decide +kernel) (by decide +kernel)
theorem allAtoms_all (ts : List Jvm.Cond) (a : Array Jvm.Value) (st : Jvm.State) : (allAtoms ts).before a st = ts.all (fun c => c.before a st) := by
  induction ts with
  | nil => rfl
  | cons c t ih =>
    show (Jvm.Cond.and c (allAtoms t)).before a st = _
    rw [Jvm.Cond.before_and, ih, List.all_cons]
def words1 : List Jvm.Cond := Jvm.Cond.code x code maxLocals ret :: tables_1
/-- a 'code' word, met by the world's own term for the bytes: nothing is compared byte by byte -/
theorem code_word {y : MethodName} {bytes : ByteArray} {mx : Nat} {rt : Option FieldType} {a : Array Value} {s : State} {m : MethodId} {meth : Method} {c : Code} (h1 : s.methodNamed? y = some m) (h2 : s.vm.method? m = some meth) (h3 : meth.code = some c) (h4 : c.code = bytes)
    (h5 : (c.maxLocals == mx && c.exceptionTable.isEmpty && decide (c.maxStack ≤ mostOperands) && decide (meth.sig.returnType = rt) && !meth.locks && decide (parseMethodDescriptor y.desc = some meth.sig)) = true) : (Jvm.Cond.code y bytes mx rt).before a s = true := by
  simp only [Bool.and_eq_true, beq_iff_eq, Bool.not_eq_true', decide_eq_true_eq] at h5
  obtain ⟨⟨⟨⟨⟨g1, g2⟩, g3⟩, g4⟩, g5⟩, g6⟩ := h5
  simp [Cond.before, Cond.holds, Cond.value, h1, h2, h3, h4, g1, g2, g3, g4, g5, g6]
def isCode : Jvm.Cond → Bool
  | .code _ _ _ _ => true
  | _ => false
theorem all_split {L : List Jvm.Cond} {P : Jvm.Cond → Bool} (h1 : L.all (fun c => isCode c || P c) = true) (h2 : ∀ c ∈ L.filter isCode, P c = true) : L.all P = true := by
  refine List.all_eq_true.mpr fun c hc => ?_
  have h := List.all_eq_true.mp h1 c hc
  rcases Bool.eq_false_or_eq_true (isCode c) with hi | hi
  · exact h2 c (List.mem_filter.mpr ⟨hc, hi⟩)
  · simpa [hi] using h
set_option maxRecDepth 65536 in
theorem w_c0 : (Jvm.Cond.code x code maxLocals ret).before args0 about1 = true := code_word (m := ⟨1, 1⟩) (meth := k1m1) (c := k1c1) (by decide +kernel) rfl rfl rfl (by decide +kernel)
set_option maxRecDepth 65536 in
theorem w_c1 : (Jvm.Cond.code ({ cls := "com/example/latticework/latticework/whilelang/Decimal", name := "isDigit", desc := "(I)Z" } : Jvm.MethodName) prog_82_method_2_code (1 : Nat) (Option.some Jvm.ClassFile.FieldType.boolean)).before args0 about1 = true := code_word (m := ⟨2, 1⟩) (meth := k2m1) (c := k2c1) (by decide +kernel) rfl rfl rfl (by decide +kernel)
set_option maxRecDepth 65536 in
theorem w_c2 : (Jvm.Cond.code ({ cls := "com/example/latticework/latticework/whilelang/DecimalIsDigitPinLaw", name := "ref", desc := "(I)Z" } : Jvm.MethodName) method_3_code (1 : Nat) (Option.some Jvm.ClassFile.FieldType.boolean)).before args0 about1 = true := code_word (m := ⟨1, 2⟩) (meth := k1m2) (c := k1c2) (by decide +kernel) rfl rfl rfl (by decide +kernel)
def codes1 : List Jvm.Cond := [Jvm.Cond.code x code maxLocals ret, Jvm.Cond.code ({ cls := "com/example/latticework/latticework/whilelang/Decimal", name := "isDigit", desc := "(I)Z" } : Jvm.MethodName) prog_82_method_2_code (1 : Nat) (Option.some Jvm.ClassFile.FieldType.boolean), Jvm.Cond.code ({ cls := "com/example/latticework/latticework/whilelang/DecimalIsDigitPinLaw", name := "ref", desc := "(I)Z" } : Jvm.MethodName) method_3_code (1 : Nat) (Option.some Jvm.ClassFile.FieldType.boolean)]
set_option maxRecDepth 65536 in
theorem codes_eq : words1.filter isCode = codes1 := rfl
theorem w_codes : ∀ c ∈ words1.filter isCode, c.before args0 about1 = true := by
  rw [codes_eq]
  intro c hc
  simp only [codes1, List.mem_cons, List.not_mem_nil, or_false] at hc
  rcases hc with rfl | rfl | rfl
  · exact w_c0
  · exact w_c1
  · exact w_c2
set_option maxRecDepth 65536 in
theorem w_t1 : words1.all (fun c => isCode c || c.before args0 about1) = true := by decide +kernel
theorem w_tables : (allAtoms (Jvm.Cond.code x code maxLocals ret :: tables_1)).before args0 about1 = true := by
  rw [allAtoms_all]
  show words1.all (fun c => c.before args0 about1) = true
  refine all_split ?_ w_codes
  rw [w_t1]
set_option maxRecDepth 65536 in
theorem w_case : (Jvm.Cond.and given_1 narrow_1).before args0 about1 = true := by decide +kernel
theorem w_applies : (headSpec (Jvm.Cond.code x code maxLocals ret :: tables_1) room_1).applies x e0.platform about1 = true :=
  (Spec.applies_iff w_frames).mpr ⟨w_running, w_runnable, w_alone, w_named, w_hears, w_ripe, w_room, w_tables⟩
theorem atStart : AtStart classFile x code maxLocals ret World_1 tables_1 room_1 Calls_1 rest_1 Pre_1 launch0 p0 e0 about1 theMethod args0 below0 :=
  ⟨lists_1, trivial, launch0.admits_env _ _ _, launch0.least_env, fairChoices_fair.cas, fairChoices_fair.clock, w_frames, w_args, w_heap, w_applies, trivial, trivial, w_case⟩
end start1
theorem witness_1 : WitnessClaimed_1 := ⟨start1.p0, start1.e0, start1.about1, start1.theMethod, start1.args0, start1.below0, start1.atStart⟩
end Jvm.Pilot.@@N@@

import JvmDerived
import JvmDerived.Pilot.@@N@@Statement
import JvmDerived.Pilot.@@N@@Code
set_option linter.unusedVariables false
set_option linter.unusedSimpArgs false
namespace Jvm.Pilot.@@N@@
open Jvm Jvm.ClassFile Sem Op Lib Jvm.Free Jvm.Stand Jvm.LawKit Jvm.RoadKit Bundle Jvm.Pilot.@@N@@.Jvm.D
/-! THE LAYER own_: 'Ends': from this state the body ends as Q says; one lemma an instruction, over frames in the form mkF -/
section Own
variable {p : Program} {l : Launch} {e : Env} {R : Room} {s : State} {m : MethodId} {args : Array Value} {below : List Frame} {meth : Method} {c : Code} {T : State} {locs : List Loc} {cells slots : Nat}
variable {Q : Option Value → Heap → List Loc → Prop} {C S : Nat} {bc : ByteArray} {pc pc' : Nat} {Ls Ls' : Array Slot} {st : List Value} {Fz : Outcome → State → Prop}
def Ends (tb : Tables) (e : Env) (below : List Frame) (Fz : Outcome → State → Prop) (t : State) : Prop :=
  ∃ s₂ o, Steps tb e below t s₂ ∧ s₂.status = .running ∧ Ended s₂ below o ∧ Fz o s₂
def OwnFin (s : State) (Q : Option Value → Heap → List Loc → Prop) (C S : Nat) (o : Outcome) (s₂ : State) : Prop := ∃ v L, o = .returned v ∧ Q v s₂.heap L ∧ FrameEnd s o s₂ L C S
theorem Ends.of {tb : Tables} {t t' : State} (st : ∀ target, Steps tb e below t' target → Steps tb e below t target) (k : Ends tb e below Fz t') : Ends tb e below Fz t := by
  obtain ⟨s₂, o, h1, h2⟩ := k
  exact ⟨s₂, o, st _ h1, h2⟩
theorem Ends.tr {tb : Tables} {t t' : State} (st : Steps tb e below t t') (k : Ends tb e below Fz t') : Ends tb e below Fz t := Ends.of (fun _ q => st.trans q) k
theorem own_iloadN (X : Stand p l e R s m args below meth c T locs cells slots) (hx : p.tables.exec = Jvm.exec) (hby : c.code = bc) {k : Fin 4} {v : Int32} (hd : decode bc pc = .ok (.iload_n k, 1)) (hp : pc + 1 = pc') (hl : Ls[k.val]? = some (.val (.int v)))
    (kt : Ends p.tables e below Fz (T.setTop (mkF m pc' Ls (.int v :: st)))) : Ends p.tables e below Fz (T.setTop (mkF m pc Ls st)) := by
  subst hp; exact Ends.of (fun _ q => XS.iloadN X.here hx rfl (hb hby hd) hl q) kt
theorem own_iload (X : Stand p l e R s m args below meth c T locs cells slots) (hx : p.tables.exec = Jvm.exec) (hby : c.code = bc) {k : Nat} {v : Int32} (hd : decode bc pc = .ok (.iload k, 2)) (hp : pc + 2 = pc') (hl : Ls[k]? = some (.val (.int v)))
    (kt : Ends p.tables e below Fz (T.setTop (mkF m pc' Ls (.int v :: st)))) : Ends p.tables e below Fz (T.setTop (mkF m pc Ls st)) := by
  subst hp; exact Ends.of (fun _ q => XS.iload X.here hx rfl (hb hby hd) hl q) kt
theorem own_aloadN (X : Stand p l e R s m args below meth c T locs cells slots) (hx : p.tables.exec = Jvm.exec) (hby : c.code = bc) {k : Fin 4} {v : Value} (hd : decode bc pc = .ok (.aload_n k, 1)) (hp : pc + 1 = pc') (hl : Ls[k.val]? = some (.val v)) (hv : v.isRef = true)
    (kt : Ends p.tables e below Fz (T.setTop (mkF m pc' Ls (v :: st)))) : Ends p.tables e below Fz (T.setTop (mkF m pc Ls st)) := by
  subst hp; exact Ends.of (fun _ q => XS.aloadN X.here hx rfl (hb hby hd) hl hv q) kt
theorem own_aload (X : Stand p l e R s m args below meth c T locs cells slots) (hx : p.tables.exec = Jvm.exec) (hby : c.code = bc) {k : Nat} {v : Value} (hd : decode bc pc = .ok (.aload k, 2)) (hp : pc + 2 = pc') (hl : Ls[k]? = some (.val v)) (hv : v.isRef = true)
    (kt : Ends p.tables e below Fz (T.setTop (mkF m pc' Ls (v :: st)))) : Ends p.tables e below Fz (T.setTop (mkF m pc Ls st)) := by
  subst hp; exact Ends.of (fun _ q => XS.aload X.here hx rfl (hb hby hd) hl hv q) kt
theorem own_istoreN (X : Stand p l e R s m args below meth c T locs cells slots) (hx : p.tables.exec = Jvm.exec) (hby : c.code = bc) {k : Fin 4} {v : Int32} (hd : decode bc pc = .ok (.istore_n k, 1)) (hp : pc + 1 = pc') (Ls' : Array Slot) (hl : storeLocals Ls k.val (.int v) = some Ls')
    (kt : Ends p.tables e below Fz (T.setTop (mkF m pc' Ls' st))) : Ends p.tables e below Fz (T.setTop (mkF m pc Ls (.int v :: st))) := by
  subst hp; exact Ends.of (fun _ q => XS.istoreN X.here hx rfl (hb hby hd) rfl hl q) kt
theorem own_istore (X : Stand p l e R s m args below meth c T locs cells slots) (hx : p.tables.exec = Jvm.exec) (hby : c.code = bc) {k : Nat} {v : Int32} (hd : decode bc pc = .ok (.istore k, 2)) (hp : pc + 2 = pc') (Ls' : Array Slot) (hl : storeLocals Ls k (.int v) = some Ls')
    (kt : Ends p.tables e below Fz (T.setTop (mkF m pc' Ls' st))) : Ends p.tables e below Fz (T.setTop (mkF m pc Ls (.int v :: st))) := by
  subst hp; exact Ends.of (fun _ q => XS.istore X.here hx rfl (hb hby hd) rfl hl q) kt
theorem own_astore (X : Stand p l e R s m args below meth c T locs cells slots) (hx : p.tables.exec = Jvm.exec) (hby : c.code = bc) {k : Nat} {v : Value} (hd : decode bc pc = .ok (.astore k, 2)) (hp : pc + 2 = pc') (Ls' : Array Slot) (hv : v.isRef = true) (hl : storeLocals Ls k v = some Ls')
    (kt : Ends p.tables e below Fz (T.setTop (mkF m pc' Ls' st))) : Ends p.tables e below Fz (T.setTop (mkF m pc Ls (v :: st))) := by
  subst hp; exact Ends.of (fun _ q => XS.astore X.here hx rfl (hb hby hd) rfl hv hl q) kt
theorem own_iconst (X : Stand p l e R s m args below meth c T locs cells slots) (hx : p.tables.exec = Jvm.exec) (hby : c.code = bc) {i : Int} (hd : decode bc pc = .ok (.iconst i, 1)) (hp : pc + 1 = pc') (v : Int32) (hv : Int32.ofInt i = v)
    (kt : Ends p.tables e below Fz (T.setTop (mkF m pc' Ls (.int v :: st)))) : Ends p.tables e below Fz (T.setTop (mkF m pc Ls st)) := by
  subst hp; exact Ends.of (fun _ q => by subst hv; exact XS.iconst X.here hx rfl (hb hby hd) q) kt
theorem own_bipush (X : Stand p l e R s m args below meth c T locs cells slots) (hx : p.tables.exec = Jvm.exec) (hby : c.code = bc) {i : Int} (hd : decode bc pc = .ok (.bipush i, 2)) (hp : pc + 2 = pc') (v : Int32) (hv : (Int8.ofInt i).toInt32 = v)
    (kt : Ends p.tables e below Fz (T.setTop (mkF m pc' Ls (.int v :: st)))) : Ends p.tables e below Fz (T.setTop (mkF m pc Ls st)) := by
  subst hp; exact Ends.of (fun _ q => by subst hv; exact XS.bipush X.here hx rfl (hb hby hd) q) kt
theorem own_sipush (X : Stand p l e R s m args below meth c T locs cells slots) (hx : p.tables.exec = Jvm.exec) (hby : c.code = bc) {i : Int} (hd : decode bc pc = .ok (.sipush i, 3)) (hp : pc + 3 = pc') (v : Int32) (hv : (Int16.ofInt i).toInt32 = v)
    (kt : Ends p.tables e below Fz (T.setTop (mkF m pc' Ls (.int v :: st)))) : Ends p.tables e below Fz (T.setTop (mkF m pc Ls st)) := by
  subst hp; exact Ends.of (fun _ q => by subst hv; exact XS.sipush X.here hx rfl (hb hby hd) q) kt
theorem own_isub (X : Stand p l e R s m args below meth c T locs cells slots) (hx : p.tables.exec = Jvm.exec) (hby : c.code = bc) {x y : Int32} (hd : decode bc pc = .ok (.isub, 1)) (hp : pc + 1 = pc')
    (kt : Ends p.tables e below Fz (T.setTop (mkF m pc' Ls (.int (x - y) :: st)))) : Ends p.tables e below Fz (T.setTop (mkF m pc Ls (.int y :: .int x :: st))) := by
  subst hp; exact Ends.of (fun _ q => XS.isub X.here hx rfl (hb hby hd) rfl q) kt
theorem own_iand (X : Stand p l e R s m args below meth c T locs cells slots) (hx : p.tables.exec = Jvm.exec) (hby : c.code = bc) {x y : Int32} (hd : decode bc pc = .ok (.iand, 1)) (hp : pc + 1 = pc')
    (kt : Ends p.tables e below Fz (T.setTop (mkF m pc' Ls (.int (x &&& y) :: st)))) : Ends p.tables e below Fz (T.setTop (mkF m pc Ls (.int y :: .int x :: st))) := by
  subst hp; exact Ends.of (fun _ q => XS.iand X.here hx rfl (hb hby hd) rfl q) kt
theorem own_iushr (X : Stand p l e R s m args below meth c T locs cells slots) (hx : p.tables.exec = Jvm.exec) (hby : c.code = bc) {x : Int32} {y : Int32} (hd : decode bc pc = .ok (.iushr, 1)) (hp : pc + 1 = pc')
    (kt : Ends p.tables e below Fz (T.setTop (mkF m pc' Ls (.int ((x.toUInt32 >>> (y &&& 31).toUInt32).toInt32) :: st)))) : Ends p.tables e below Fz (T.setTop (mkF m pc Ls (.int y :: .int x :: st))) := by
  subst hp; exact Ends.of (fun _ q => Jvm.Free.XT.iushr X.here hx rfl (hb hby hd) rfl q) kt
theorem own_irem (X : Stand p l e R s m args below meth c T locs cells slots) (hx : p.tables.exec = Jvm.exec) (hby : c.code = bc) {x y : Int32} (hd : decode bc pc = .ok (.irem, 1)) (hp : pc + 1 = pc') (hy : y ≠ 0)
    (kt : Ends p.tables e below Fz (T.setTop (mkF m pc' Ls (.int (x % y) :: st)))) : Ends p.tables e below Fz (T.setTop (mkF m pc Ls (.int y :: .int x :: st))) := by
  subst hp; exact Ends.of (fun _ q => iremM X hx rfl (hb hby hd) rfl hy q) kt
theorem own_dup (X : Stand p l e R s m args below meth c T locs cells slots) (hx : p.tables.exec = Jvm.exec) (hby : c.code = bc) {v : Value} (hd : decode bc pc = .ok (.dup, 1)) (hp : pc + 1 = pc') (hc : v.category = 1)
    (kt : Ends p.tables e below Fz (T.setTop (mkF m pc' Ls (v :: v :: st)))) : Ends p.tables e below Fz (T.setTop (mkF m pc Ls (v :: st))) := by
  subst hp; exact Ends.of (fun _ q => XS.dup X.here hx rfl (hb hby hd) rfl hc q) kt
theorem own_iinc (X : Stand p l e R s m args below meth c T locs cells slots) (hx : p.tables.exec = Jvm.exec) (hby : c.code = bc) {k : Nat} {i : Int} {x : Int32} (hd : decode bc pc = .ok (.iinc k i, 3)) (hp : pc + 3 = pc') (v : Int32) (hv : Int32.ofInt i = v) (Ls' : Array Slot) (hl : Ls[k]? = some (.val (.int x))) (hl' : storeLocals Ls k (.int (x + v)) = some Ls')
    (kt : Ends p.tables e below Fz (T.setTop (mkF m pc' Ls' st))) : Ends p.tables e below Fz (T.setTop (mkF m pc Ls st)) := by
  subst hp; exact Ends.of (fun _ q => by subst hv; exact XS.iinc X.here hx rfl (hb hby hd) hl hl' q) kt
theorem own_goto (X : Stand p l e R s m args below meth c T locs cells slots) (hx : p.tables.exec = Jvm.exec) (hby : c.code = bc) {o : Int} (hd : decode bc pc = .ok (.goto o, 3)) (hp : (pc : Int) + o = (pc' : Int)) (kt : Ends p.tables e below Fz (T.setTop (mkF m pc' Ls st))) : Ends p.tables e below Fz (T.setTop (mkF m pc Ls st)) :=
  Ends.of (fun _ q => XS.goto X.here hx rfl (pc0 := pc) (pc' := pc') rfl (hb hby hd) (by rw [hp]; exact Int.natCast_nonneg _) (by rw [hp]; rfl) q) kt
theorem own_icmp_eq (X : Stand p l e R s m args below meth c T locs cells slots) (hx : p.tables.exec = Jvm.exec) (hby : c.code = bc) {x y : Int32} {o : Int} {pcY pcN : Nat} (hd : decode bc pc = .ok (.if_icmp .eq o, 3)) (hpY : (pc : Int) + o = (pcY : Int)) (hpN : pc + 3 = pcN) (kY : x = y → Ends p.tables e below Fz (T.setTop (mkF m pcY Ls st))) (kN : ¬ x = y → Ends p.tables e below Fz (T.setTop (mkF m pcN Ls st))) : Ends p.tables e below Fz (T.setTop (mkF m pc Ls (.int y :: .int x :: st))) := by
  subst hpN; by_cases h : x = y
  · exact Ends.of (fun _ q => XS.icmpYes X.here hx rfl (pc0 := pc) (pc' := pcY) rfl (hb hby hd) rfl (Jvm.Free.XT.ii_eq_t h) (by rw [hpY]; exact Int.natCast_nonneg _) (by rw [hpY]; rfl) q) (kY h)
  · exact Ends.of (fun _ q => XS.icmpNo X.here hx rfl (hb hby hd) rfl (Jvm.Free.XT.ii_eq_f h) q) (kN h)
theorem own_icmp_ne (X : Stand p l e R s m args below meth c T locs cells slots) (hx : p.tables.exec = Jvm.exec) (hby : c.code = bc) {x y : Int32} {o : Int} {pcY pcN : Nat} (hd : decode bc pc = .ok (.if_icmp .ne o, 3)) (hpY : (pc : Int) + o = (pcY : Int)) (hpN : pc + 3 = pcN) (kY : ¬ x = y → Ends p.tables e below Fz (T.setTop (mkF m pcY Ls st))) (kN : x = y → Ends p.tables e below Fz (T.setTop (mkF m pcN Ls st))) : Ends p.tables e below Fz (T.setTop (mkF m pc Ls (.int y :: .int x :: st))) := by
  subst hpN; by_cases h : x = y
  · exact Ends.of (fun _ q => XS.icmpNo X.here hx rfl (hb hby hd) rfl (Jvm.Free.XT.ii_ne_f h) q) (kN h)
  · exact Ends.of (fun _ q => XS.icmpYes X.here hx rfl (pc0 := pc) (pc' := pcY) rfl (hb hby hd) rfl (Jvm.Free.XT.ii_ne_t h) (by rw [hpY]; exact Int.natCast_nonneg _) (by rw [hpY]; rfl) q) (kY h)
theorem own_icmp_lt (X : Stand p l e R s m args below meth c T locs cells slots) (hx : p.tables.exec = Jvm.exec) (hby : c.code = bc) {x y : Int32} {o : Int} {pcY pcN : Nat} (hd : decode bc pc = .ok (.if_icmp .lt o, 3)) (hpY : (pc : Int) + o = (pcY : Int)) (hpN : pc + 3 = pcN) (kY : x.toInt < y.toInt → Ends p.tables e below Fz (T.setTop (mkF m pcY Ls st))) (kN : y.toInt ≤ x.toInt → Ends p.tables e below Fz (T.setTop (mkF m pcN Ls st))) : Ends p.tables e below Fz (T.setTop (mkF m pc Ls (.int y :: .int x :: st))) := by
  subst hpN; by_cases h : x < y
  · exact Ends.of (fun _ q => XS.icmpYes X.here hx rfl (pc0 := pc) (pc' := pcY) rfl (hb hby hd) rfl (Jvm.Free.XT.ii_lt_t h) (by rw [hpY]; exact Int.natCast_nonneg _) (by rw [hpY]; rfl) q) (kY (Int32.lt_iff_toInt_lt.mp h))
  · exact Ends.of (fun _ q => XS.icmpNo X.here hx rfl (hb hby hd) rfl (Jvm.Free.XT.ii_lt_f h) q) (kN (Int.not_lt.mp fun q => h (Int32.lt_iff_toInt_lt.mpr q)))
theorem own_icmp_ge (X : Stand p l e R s m args below meth c T locs cells slots) (hx : p.tables.exec = Jvm.exec) (hby : c.code = bc) {x y : Int32} {o : Int} {pcY pcN : Nat} (hd : decode bc pc = .ok (.if_icmp .ge o, 3)) (hpY : (pc : Int) + o = (pcY : Int)) (hpN : pc + 3 = pcN) (kY : y.toInt ≤ x.toInt → Ends p.tables e below Fz (T.setTop (mkF m pcY Ls st))) (kN : x.toInt < y.toInt → Ends p.tables e below Fz (T.setTop (mkF m pcN Ls st))) : Ends p.tables e below Fz (T.setTop (mkF m pc Ls (.int y :: .int x :: st))) := by
  subst hpN; by_cases h : x < y
  · exact Ends.of (fun _ q => XS.icmpNo X.here hx rfl (hb hby hd) rfl (Jvm.Free.XT.ii_ge_f h) q) (kN (Int32.lt_iff_toInt_lt.mp h))
  · exact Ends.of (fun _ q => XS.icmpYes X.here hx rfl (pc0 := pc) (pc' := pcY) rfl (hb hby hd) rfl (Jvm.Free.XT.ii_ge_t h) (by rw [hpY]; exact Int.natCast_nonneg _) (by rw [hpY]; rfl) q) (kY (Int.not_lt.mp fun q => h (Int32.lt_iff_toInt_lt.mpr q)))
theorem own_icmp_gt (X : Stand p l e R s m args below meth c T locs cells slots) (hx : p.tables.exec = Jvm.exec) (hby : c.code = bc) {x y : Int32} {o : Int} {pcY pcN : Nat} (hd : decode bc pc = .ok (.if_icmp .gt o, 3)) (hpY : (pc : Int) + o = (pcY : Int)) (hpN : pc + 3 = pcN) (kY : y.toInt < x.toInt → Ends p.tables e below Fz (T.setTop (mkF m pcY Ls st))) (kN : x.toInt ≤ y.toInt → Ends p.tables e below Fz (T.setTop (mkF m pcN Ls st))) : Ends p.tables e below Fz (T.setTop (mkF m pc Ls (.int y :: .int x :: st))) := by
  subst hpN; by_cases h : y < x
  · exact Ends.of (fun _ q => XS.icmpYes X.here hx rfl (pc0 := pc) (pc' := pcY) rfl (hb hby hd) rfl (Jvm.Free.XT.ii_gt_t h) (by rw [hpY]; exact Int.natCast_nonneg _) (by rw [hpY]; rfl) q) (kY (Int32.lt_iff_toInt_lt.mp h))
  · exact Ends.of (fun _ q => XS.icmpNo X.here hx rfl (hb hby hd) rfl (Jvm.Free.XT.ii_gt_f h) q) (kN (Int.not_lt.mp fun q => h (Int32.lt_iff_toInt_lt.mpr q)))
theorem own_icmp_le (X : Stand p l e R s m args below meth c T locs cells slots) (hx : p.tables.exec = Jvm.exec) (hby : c.code = bc) {x y : Int32} {o : Int} {pcY pcN : Nat} (hd : decode bc pc = .ok (.if_icmp .le o, 3)) (hpY : (pc : Int) + o = (pcY : Int)) (hpN : pc + 3 = pcN) (kY : x.toInt ≤ y.toInt → Ends p.tables e below Fz (T.setTop (mkF m pcY Ls st))) (kN : y.toInt < x.toInt → Ends p.tables e below Fz (T.setTop (mkF m pcN Ls st))) : Ends p.tables e below Fz (T.setTop (mkF m pc Ls (.int y :: .int x :: st))) := by
  subst hpN; by_cases h : y < x
  · exact Ends.of (fun _ q => XS.icmpNo X.here hx rfl (hb hby hd) rfl (Jvm.Free.XT.ii_le_f h) q) (kN (Int32.lt_iff_toInt_lt.mp h))
  · exact Ends.of (fun _ q => XS.icmpYes X.here hx rfl (pc0 := pc) (pc' := pcY) rfl (hb hby hd) rfl (Jvm.Free.XT.ii_le_t h) (by rw [hpY]; exact Int.natCast_nonneg _) (by rw [hpY]; rfl) q) (kY (Int.not_lt.mp fun q => h (Int32.lt_iff_toInt_lt.mpr q)))
theorem own_if_ne (X : Stand p l e R s m args below meth c T locs cells slots) (hx : p.tables.exec = Jvm.exec) (hby : c.code = bc) {x : Int32} {o : Int} {pcY pcN : Nat} (hd : decode bc pc = .ok (.ifCond .ne o, 3)) (hpY : (pc : Int) + o = (pcY : Int)) (hpN : pc + 3 = pcN) (kY : ¬ x = 0 → Ends p.tables e below Fz (T.setTop (mkF m pcY Ls st))) (kN : x = 0 → Ends p.tables e below Fz (T.setTop (mkF m pcN Ls st))) : Ends p.tables e below Fz (T.setTop (mkF m pc Ls (.int x :: st))) := by
  subst hpN; by_cases h : x = (0 : Int32)
  · exact Ends.of (fun _ q => XS.ifNo X.here hx rfl (hb hby hd) rfl (Jvm.Free.XT.i0_ne_f h) q) (kN h)
  · exact Ends.of (fun _ q => XS.ifYes X.here hx rfl (pc0 := pc) (pc' := pcY) rfl (hb hby hd) rfl (Jvm.Free.XT.i0_ne_t h) (by rw [hpY]; exact Int.natCast_nonneg _) (by rw [hpY]; rfl) q) (kY h)
theorem own_ret (X : Stand p l e R s m args below meth c T locs cells slots) (hx : p.tables.exec = Jvm.exec) (hby : c.code = bc) {v : Value} {t : FieldType} {i : Instr} (hret : meth.sig.returnType = some t) (hk : meth.locks = false) (hd : decode bc pc = .ok (i, 1)) (v' : Value) (hn : narrow t v = v')
    (hi : (i = .ireturn ∧ (t = .int ∨ t = .boolean ∨ t = .byte ∨ t = .char ∨ t = .short) ∧ ∃ z, v = .int z) ∨ (i = .lreturn ∧ t = .long ∧ ∃ z, v = .long z) ∨ (i = .areturn ∧ t.isReference = true ∧ v.isRef = true))
    (hC : cells ≤ C) (hS : slots ≤ S) (q : Q (some v') T.heap locs) : Ends p.tables e below (OwnFin s Q C S) (T.setTop (mkF m pc Ls (v :: st))) := by
  obtain ⟨fs, hr, hrun, hended, hW, hsame⟩ := X.leave (v := some v') (fun h => by rw [hret] at h; cases h) hk
  refine ⟨_, _, ?_, hrun, hended, _, _, rfl, q, ⟨_, rfl⟩, hW, hsame.mono hC hS⟩
  have hm' : T.vm.method? m = some meth := X.method'
  show Steps p.tables e below (T.setTop { method := m, pc := pc, locals := Ls, stack := v :: st, locked := none }) _
  have hd' := hb hby hd
  rcases hi with ⟨rfl, ht, z, rfl⟩ | ⟨rfl, rfl, z, rfl⟩ | ⟨rfl, ht, hv⟩
  · rcases ht with rfl | rfl | rfl | rfl | rfl <;> (jvm_step X.here [X.here.top, hx, hd', hm', hret, hn]; first | (intro acts; rw [hr _ acts rfl rfl rfl]) | rw [hr _ _ rfl rfl rfl]) <;> exact Steps.refl _
  · have hn2 : Value.long z = v' := hn
    subst hn2
    jvm_step X.here [X.here.top, hx, hd', hm', hret, hn]
    first | (intro acts; rw [hr _ acts rfl rfl rfl]) | rw [hr _ _ rfl rfl rfl]
    exact Steps.refl _
  · have hn2 : v = v' := by rw [← hn]; rcases ref_cases hv with rfl | ⟨z, rfl⟩ <;> cases t <;> rfl
    subst hn2
    jvm_step X.here [X.here.top, hx, hd', hm', hret, hn, ht, hv]
    first | (intro acts; rw [hr _ acts rfl rfl rfl]) | rw [hr _ _ rfl rfl rfl]
    exact Steps.refl _
theorem own_retV (X : Stand p l e R s m args below meth c T locs cells slots) (hx : p.tables.exec = Jvm.exec) (hby : c.code = bc) (hret : meth.sig.returnType = none) (hk : meth.locks = false) (hd : decode bc pc = .ok (.return_, 1)) (hC : cells ≤ C) (hS : slots ≤ S) (q : Q none T.heap locs) : Ends p.tables e below (OwnFin s Q C S) (T.setTop (mkF m pc Ls [])) := by
  obtain ⟨fs, hr, hrun, hended, hW, hsame⟩ := X.leave (v := none) (fun _ => rfl) hk
  exact ⟨_, _, X.returnOut hx hret (hb hby hd) hr, hrun, hended, _, _, rfl, q, ⟨_, rfl⟩, hW, hsame.mono hC hS⟩
end Own
section OwnH
variable {p : Program} {l : Launch} {e : Env} {R : Room} {s : State} {m : MethodId} {args : Array Value} {below : List Frame} {meth : Method} {c : Code} {T : State} {locs : List Loc} {cells slots : Nat}
variable {Fz : Outcome → State → Prop} {bc : ByteArray} {pc pc' : Nat} {Ls Ls' : Array Slot} {st : List Value}
variable {Z : State} {a0 : Array Value} {h h0 : Heap} {n0 : Nat}
abbrev OwnMet (l : Launch) (Z : State) (y : MethodName) (bytes : ByteArray) (maxL : Nat) (rt : Option FieldType) (ws : List Jvm.Cond) (rm : Room) (as' : Array Value) (h0 : Heap) (Qc : Option Value → Heap → List Loc → Prop) : Prop :=
  MetFree l y (head1 (Jvm.Cond.code y bytes maxL rt :: ws) rm) (fun a U => a = as' ∧ Z.Warmed39 U.vm ∧ U.heap = h0) (fun _ _ _ _ _ => True) (fun _ U o U' => ∃ v L, o = .returned v ∧ Qc v U'.heap L ∧ FrameEnd U o U' L rm.cells rm.slots)
theorem own_body {y : MethodName} {bytes : ByteArray} {maxL : Nat} {rt : Option FieldType} {ws : List Jvm.Cond} {rm : Room} {as' : Array Value} {Qc : Option Value → Heap → List Loc → Prop} {Ls0 : Array Slot} (hpl : plainFor y = true) (hef : ∀ m : MethodId, entryFrame m as' maxL = mkF m 0 Ls0 [])
    (body : ∀ (p : Program) (e : Env) (s : State) (m : MethodId) (below : List Frame) (meth : Method) (c : Code) (s₁ : State), Stand p l e rm s m as' below meth c s₁ [] 0 0 → p.tables.exec = Jvm.exec → c.code = bytes → c.maxLocals = maxL → s.vm.findClass y.cls = some m.cls → meth.name = y.name → meth.sig.returnType = rt → meth.locks = false → Z.Warmed39 s.vm → s₁.heap = h0 → Ends p.tables e below (OwnFin s Qc rm.cells rm.slots) (s₁.setTop (mkF m 0 Ls0 []))) :
    OwnMet l Z y bytes maxL rt ws rm as' h0 Qc := by
  refine MetFree.of_bodySF hpl hisR ?_
  intro p e s m args below meth c s₁ Bd hml0 hP hK
  obtain ⟨rfl, hZ, hh⟩ := hP
  have e0 : s₁.heap = h0 := by rw [← hh, Bd.state]; rfl
  rw [hef]
  exact body p e s m below meth c s₁ (Stand.of_body Bd) Bd.exec Bd.bytes hml0 (findClass_of_methodNamed Bd.named) (name_of_methodNamed Bd.named Bd.method).1 Bd.returns Bd.notSynchronized hZ e0
theorem own_static (X : Stand p l e R s m args below meth c T locs cells slots) (hx : p.tables.exec = Jvm.exec) (hby : c.code = bc) (hZ : Z.Warmed39 s.vm) {own : String} {index : Nat} {y : MethodName} {bytes : ByteArray} {maxL : Nat} {rt r : Option FieldType} {ps : List FieldType} {rm : Room} {argsL rest : List Value} {Qc : Option Value → Heap → List Loc → Prop} {W : Nat}
    (hown : s.vm.findClass own = some m.cls) (w1 : (Jvm.Cond.methodLink own index y).before a0 Z = true) (w2 : (Jvm.Cond.static y).before a0 Z = true) (w3 : (Jvm.Cond.initialized y.cls).before a0 Z = true) (w4 : (Jvm.Cond.code y bytes maxL rt).before a0 Z = true) (hy : y.cls ≠ "java/lang/invoke/MethodHandle" ∧ y.cls ≠ "java/lang/invoke/VarHandle")
    (hM : OwnMet l Z y bytes maxL rt [] rm argsL.toArray h Qc) (eT : T.heap = h) (hml : Ls.size = c.maxLocals) (hlen : parseMethodDescriptor y.desc = some ⟨ps, r⟩) (hl : argsL.length = ps.length) (hf : rm.frames + 1 ≤ R.frames) (hW : (rest.map fun v => v.category).sum ≤ W) (hlo : W + (maxL + 11) + rm.locals ≤ R.locals) (hc : cells + rm.cells ≤ R.cells) (hs : slots + rm.slots ≤ R.slots)
    (hd : decode bc pc = .ok (.invokestatic index, 3)) (hp : pc + 3 = pc') (hst : st = argsL.reverse ++ rest)
    (kt : ∀ v T' L, Stand p l e R s m args below meth c T' (locs ++ L) (cells + rm.cells) (slots + rm.slots) → Qc v T'.heap L → Ends p.tables e below Fz (T'.setTop (mkF m pc' Ls (v.toList ++ rest)))) : Ends p.tables e below Fz (T.setTop (mkF m pc Ls st)) := by
  subst hp hst
  obtain ⟨v, vm₁, ⟨T', L', k', n'⟩, -, X', ⟨Lc, hQ, l', y', z'⟩, st⟩ := Jvm.LawKit.callS X hx (y := y) hown (mvT hZ w1) (mvT hZ w2) (mvT hZ w3) (mvT hZ w4) hy (backOf (W := W) hM hZ w4 w3 hf hlo) (g := mkF m pc Ls (argsL.reverse ++ rest)) rfl hml (argsL := argsL) (rest := rest) (lenOf hlen hl) rfl (by show 2 * 0 + _ ≤ _; omega) (hb hby hd) (fun _ _ => ⟨rfl, eT, hc, hs⟩)
  dsimp only [Pt.U, Pt.locs, Pt.cells, Pt.slots] at X' l' y' z' st hQ
  subst l' y' z'
  exact Ends.of st (kt v T' Lc X' hQ)
theorem own_special (X : Stand p l e R s m args below meth c T locs cells slots) (hx : p.tables.exec = Jvm.exec) (hby : c.code = bc) (hZ : Z.Warmed39 s.vm) {own : String} {index : Nat} {y : MethodName} {bytes : ByteArray} {maxL : Nat} {r : Option FieldType} {ps : List FieldType} {rm : Room} {a : Addr} {argsL rest : List Value} {Qc : Option Value → Heap → List Loc → Prop} {W : Nat}
    (hown : s.vm.findClass own = some m.cls) (hn : y.name = "<init>") (w1 : (Jvm.Cond.methodLink own index y).before a0 Z = true) (w2 : (Jvm.Cond.instanceMethod y).before a0 Z = true) (w3 : (Jvm.Cond.initialized y.cls).before a0 Z = true) (w4 : (Jvm.Cond.code y bytes maxL none).before a0 Z = true) (hy : y.cls ≠ "java/lang/invoke/MethodHandle" ∧ y.cls ≠ "java/lang/invoke/VarHandle")
    (hM : OwnMet l Z y bytes maxL none [] rm (Value.ref a :: argsL).toArray h Qc) (eT : T.heap = h) (hml : Ls.size = c.maxLocals) (hlen : parseMethodDescriptor y.desc = some ⟨ps, r⟩) (hl : argsL.length = ps.length) (hf : rm.frames + 1 ≤ R.frames) (hW : (rest.map fun v => v.category).sum ≤ W) (hlo : W + (maxL + 11) + rm.locals ≤ R.locals) (hc : cells + rm.cells ≤ R.cells) (hs : slots + rm.slots ≤ R.slots)
    (hd : decode bc pc = .ok (.invokespecial index, 3)) (hp : pc + 3 = pc') (hst : st = argsL.reverse ++ Value.ref a :: rest)
    (kt : ∀ v T' L, Stand p l e R s m args below meth c T' (locs ++ L) (cells + rm.cells) (slots + rm.slots) → Qc v T'.heap L → Ends p.tables e below Fz (T'.setTop (mkF m pc' Ls (v.toList ++ rest)))) : Ends p.tables e below Fz (T.setTop (mkF m pc Ls st)) := by
  subst hp hst
  obtain ⟨v, vm₁, ⟨T', L', k', n'⟩, -, X', ⟨Lc, hQ, l', y', z'⟩, st⟩ := X.specialBack hx (y := y) hn hown (mvT hZ w1) (mvT hZ w2) (mvT hZ w4) hy (backOf (W := W) hM hZ w4 w3 hf hlo) (g := mkF m pc Ls (argsL.reverse ++ Value.ref a :: rest)) rfl hml (Steps.refl _) (a := a) (argsL := argsL) (rest := rest) (lenOf hlen hl) rfl (by show 2 * 0 + _ ≤ _; omega) (hb hby hd) (fun _ _ => ⟨rfl, eT, hc, hs⟩)
  dsimp only [Pt.U, Pt.locs, Pt.cells, Pt.slots] at X' l' y' z' st hQ
  subst l' y' z'
  exact Ends.tr st (kt v T' Lc X' hQ)
theorem own_virtual (X : Stand p l e R s m args below meth c T locs cells slots) (hx : p.tables.exec = Jvm.exec) (hby : c.code = bc) (hZ : Z.Warmed39 s.vm) {own Cn : String} {index : Nat} {y : MethodName} {bytes : ByteArray} {maxL : Nat} {rt r : Option FieldType} {ps : List FieldType} {rm : Room} {a : Addr} {argsL rest : List Value} {Qc : Option Value → Heap → List Loc → Prop} {W : Nat}
    (hown : s.vm.findClass own = some m.cls) (w1 : (Jvm.Cond.methodLink own index y).before a0 Z = true) (wd : (Jvm.Cond.declares y).before a0 Z = true) (ws : (Jvm.Cond.selects Cn y y).before a0 Z = true) (w2 : (Jvm.Cond.instanceMethod y).before a0 Z = true) (w3 : (Jvm.Cond.initialized y.cls).before a0 Z = true) (w4 : (Jvm.Cond.code y bytes maxL rt).before a0 Z = true) (hy : y.cls ≠ "java/lang/invoke/MethodHandle" ∧ y.cls ≠ "java/lang/invoke/VarHandle")
    (hM : OwnMet l Z y bytes maxL rt [] rm (Value.ref a :: argsL).toArray h Qc) (E : Exa Z h a Cn) (eT : T.heap = h) (hml : Ls.size = c.maxLocals) (hlen : parseMethodDescriptor y.desc = some ⟨ps, r⟩) (hl : argsL.length = ps.length) (hf : rm.frames + 1 ≤ R.frames) (hW : (rest.map fun v => v.category).sum ≤ W) (hlo : W + (maxL + 11) + rm.locals ≤ R.locals) (hc : cells + rm.cells ≤ R.cells) (hs : slots + rm.slots ≤ R.slots)
    (hd : decode bc pc = .ok (.invokevirtual index, 3)) (hp : pc + 3 = pc') (hst : st = argsL.reverse ++ Value.ref a :: rest)
    (kt : ∀ v T' L, Stand p l e R s m args below meth c T' (locs ++ L) (cells + rm.cells) (slots + rm.slots) → Qc v T'.heap L → Ends p.tables e below Fz (T'.setTop (mkF m pc' Ls (v.toList ++ rest)))) : Ends p.tables e below Fz (T.setTop (mkF m pc Ls st)) := by
  subst hp hst
  obtain ⟨cq, kq, qa, qb, qc⟩ := isOf hZ eT E
  obtain ⟨v, vm₁, ⟨T', L', k', n'⟩, -, X', ⟨Lc, hQ, l', y', z'⟩, st⟩ := X.virtualBack hx (y := y) (z := y) hown (mvT hZ w1) (mvT hZ wd) (notFace_of_selects (args := #[]) (mvT hZ ws)) (mvT hZ ws) (mvT hZ w2) hy (backOf (W := W) hM hZ w4 w3 hf hlo) qa qc (g := mkF m pc Ls (argsL.reverse ++ Value.ref a :: rest)) rfl hml (Steps.refl _) (argsL := argsL) (rest := rest) (lenOf hlen hl) rfl (by show 2 * 0 + _ ≤ _; omega) (hb hby hd) (fun _ _ => ⟨rfl, eT, hc, hs⟩)
  dsimp only [Pt.U, Pt.locs, Pt.cells, Pt.slots] at X' l' y' z' st hQ
  subst l' y' z'
  exact Ends.tr st (kt v T' Lc X' hQ)
theorem own_initO (X : Stand p l e R s m args below meth c T locs cells slots) (hx : p.tables.exec = Jvm.exec) (hby : c.code = bc) (hZ : Z.Warmed39 s.vm) {own : String} {index : Nat} {a : Addr}
    (hown : s.vm.findClass own = some m.cls) (w1 : (Jvm.Cond.methodLink own index Lib.objectInit).before a0 Z = true) (w2 : (Jvm.Cond.instanceMethod Lib.objectInit).before a0 Z = true) (w3 : (Jvm.Cond.code Lib.objectInit ⟨#[0xb1]⟩ 1 none).before a0 Z = true) (eT : T.heap = h) (hml : Ls.size = c.maxLocals) (hf : 1 ≤ R.frames) {W : Nat} (hW : (st.map fun v => v.category).sum ≤ W) (hlo : W + 12 ≤ R.locals)
    (hd : decode bc pc = .ok (.invokespecial index, 3)) (hp : pc + 3 = pc')
    (kt : ∀ T', Stand p l e R s m args below meth c T' locs cells slots → T'.heap = h → Ends p.tables e below Fz (T'.setTop (mkF m pc' Ls st))) : Ends p.tables e below Fz (T.setTop (mkF m pc Ls (.ref a :: st))) := by
  subst hp
  obtain ⟨T', X', e', st⟩ := initO X hx hZ hown w1 w2 w3 eT (g := mkF m pc Ls (.ref a :: st)) rfl hml rfl (hb hby hd) hf (W := W) (by show 2 * 0 + _ ≤ _; omega) hlo
  exact Ends.of st (kt T' X' e')
theorem own_getfield (X : Stand p l e R s m args below meth c T locs cells slots) (hx : p.tables.exec = Jvm.exec) (hby : c.code = bc) (hZ : Z.Warmed39 s.vm) {own R0 O n d host : String} {index : Nat} {a : Addr} {v : Value}
    (hown : s.vm.findClass own = some m.cls) (w : (Jvm.Cond.fieldLink own index R0 n d).before a0 Z = true ∨ (Jvm.Cond.fieldLinkNest own index R0 n d host).before a0 Z = true) (via : Via Z R0 O n d) (eT : T.heap = h) (F : Fld Z h a O n d v)
    (hd : decode bc pc = .ok (.getfield index, 3)) (hp : pc + 3 = pc')
    (kt : ∀ T', Stand p l e R s m args below meth c T' locs cells slots → T'.heap = h → Ends p.tables e below Fz (T'.setTop (mkF m pc' Ls (v :: st)))) : Ends p.tables e below Fz (T.setTop (mkF m pc Ls (.ref a :: st))) := by
  subst hp
  obtain ⟨T', X', e', st⟩ := getF X hx hZ hown w via eT F (g := mkF m pc Ls (.ref a :: st)) rfl rfl (hb hby hd)
  exact Ends.of st (kt T' X' e')
theorem own_putfield (X : Stand p l e R s m args below meth c T locs cells slots) (hx : p.tables.exec = Jvm.exec) (hby : c.code = bc) (hZ : Z.Warmed39 s.vm) {own R0 O n d host Cn : String} {index kk : Nat} {ty : FieldType} {a : Addr} {v old : Value}
    (hown : s.vm.findClass own = some m.cls) (w : (Jvm.Cond.fieldLink own index R0 n d).before a0 Z = true ∨ (Jvm.Cond.fieldLinkNest own index R0 n d host).before a0 Z = true) (via : Via Z R0 O n d) (eT : T.heap = h) (F : Fld Z h a O n d old) (E : Exa Z h a Cn)
    (L : (Jvm.Cond.lays Cn O n d).before a0 Z = true ∨ ((Jvm.Cond.laysFinal Cn O n d).before a0 Z = true ∧ own = O ∧ meth.name = "<init>")) (wi : (Jvm.Cond.instantiable Cn kk).before a0 Z = true) (hty : parseFieldDescriptor d = some ty) (hn : narrow ty v = v) (hf : fits ty v = true) (N : Fr n0 locs) (ga : n0 ≤ a)
    (hd : decode bc pc = .ok (.putfield index, 3)) (hp : pc + 3 = pc')
    (kt : ∀ T' h' L', Stand p l e R s m args below meth c T' L' cells slots → T'.heap = h' → Wr h h' a (Jvm.RoadKit.slotOf Z O n d) v → Fr n0 L' → Ends p.tables e below Fz (T'.setTop (mkF m pc' Ls st))) : Ends p.tables e below Fz (T.setTop (mkF m pc Ls (v :: .ref a :: st))) := by
  subst hp
  obtain ⟨T', h', X', e', W', st⟩ := putF X hx hZ hown w via eT F E L wi hty hn hf (g := mkF m pc Ls (v :: .ref a :: st)) rfl rfl (hb hby hd)
  exact Ends.of st (kt T' h' _ X' e' W' (Fr.snoc X' N ga))
theorem own_new (X : Stand p l e R s m args below meth c T locs cells slots) (hx : p.tables.exec = Jvm.exec) (hby : c.code = bc) (hZ : Z.Warmed39 s.vm) {own Cn : String} {index n : Nat}
    (hown : s.vm.findClass own = some m.cls) (w : (Jvm.Cond.classLink own index Cn).before a0 Z = true) (wi : (Jvm.Cond.instantiable Cn n).before a0 Z = true) (wz : (Jvm.Cond.initialized Cn).before a0 Z = true) (eT : T.heap = h) (hc : cells + 1 ≤ R.cells) (hl : slots + n ≤ R.slots)
    (hd : decode bc pc = .ok (.new index, 3)) (hp : pc + 3 = pc')
    (kt : ∀ T' h' b, Stand p l e R s m args below meth c T' locs (cells + 1) (slots + n) → T'.heap = h' → b = h.size → Ext h h' → Exa Z h' b Cn → (∀ {O nm d : String} {ty : FieldType}, Laid Z a0 Cn O nm d → parseFieldDescriptor d = some ty → Fld Z h' b O nm d (defaultValue ty)) → Ends p.tables e below Fz (T'.setTop (mkF m pc' Ls (.ref b :: st)))) : Ends p.tables e below Fz (T.setTop (mkF m pc Ls st)) := by
  subst hp
  obtain ⟨T', h', X', e', E', A', D', -, st⟩ := newO X hx hZ hown w wi wz eT (g := mkF m pc Ls st) rfl (hb hby hd) hc hl
  exact Ends.of st (kt T' h' _ X' e' rfl E' A' D')
theorem own_newarray (X : Stand p l e R s m args below meth c T locs cells slots) (hx : p.tables.exec = Jvm.exec) (hby : c.code = bc) (hZ : Z.Warmed39 s.vm) {aty : ArrayType} {n : Int32}
    (w : (Jvm.Cond.arrayClass (newarray.typeOf aty)).before a0 Z = true) (eT : T.heap = h) (hn : ¬ n < 0) (cap : Nat) (hcap : n.toNatClampNeg ≤ cap) (hb8 : cap * 8 ≤ 536870912) (hc : cells + 1 ≤ R.cells) (hl : slots + cap ≤ R.slots)
    (ty : FieldType) (hty : newarray.typeOf aty = ty) (vs : List Value) (hvs : List.replicate n.toNatClampNeg (defaultValue ty) = vs)
    (hd : decode bc pc = .ok (.newarray aty, 2)) (hp : pc + 2 = pc')
    (kt : ∀ T' h' b k, Stand p l e R s m args below meth c T' locs (cells + 1) (slots + cap) → T'.heap = h' → b = h.size → Ext h h' → Arv Z h' b k ty n vs (defaultValue ty) → Ends p.tables e below Fz (T'.setTop (mkF m pc' Ls (.ref b :: st)))) : Ends p.tables e below Fz (T.setTop (mkF m pc Ls (.int n :: st))) := by
  subst hp hty hvs
  obtain ⟨T', h', k', X', e', E', A', st⟩ := newP X hx hZ w eT (g := mkF m pc Ls (.int n :: st)) rfl (hb hby hd) rfl hn hcap hb8 hc hl
  exact Ends.of st (kt T' h' _ k' X' e' rfl E' ((Arv.new A' hn).pad (pad_rep [] _ _)))
theorem own_iaload (X : Stand p l e R s m args below meth c T locs cells slots) (hx : p.tables.exec = Jvm.exec) (hby : c.code = bc) (hZ : Z.Warmed39 s.vm) {a : Addr} {k : ClassId} {n j : Int32} {vs : List Value} {dv : Value} (v : Int32)
    (eT : T.heap = h) (V : Arv Z h a k .int n vs dv) (hj : ¬ j < 0 ∧ j < n) (hv : vs.getD j.toNatClampNeg dv = .int v) (hd : decode bc pc = .ok (.iaload, 1)) (hp : pc + 1 = pc')
    (kt : Ends p.tables e below Fz (T.setTop (mkF m pc' Ls (.int v :: st)))) : Ends p.tables e below Fz (T.setTop (mkF m pc Ls (.int j :: .ref a :: st))) := by
  subst hp
  obtain ⟨cl, A, -, Sz, Nn, H, -⟩ := V
  exact Ends.of (fun _ q => X.iaload hx (j := j) (v := .int v) (by rw [eT]; exact A.1) (State.isArrayOf_alike hZ.alike A.2.1) A.2.2 (inb_of Sz hj) (H.at (inb_of Sz hj) hv) (g := mkF m pc Ls (.int j :: .ref a :: st)) rfl rfl (hb hby hd) _ q) kt
theorem own_iastore (X : Stand p l e R s m args below meth c T locs cells slots) (hx : p.tables.exec = Jvm.exec) (hby : c.code = bc) (hZ : Z.Warmed39 s.vm) {a : Addr} {k : ClassId} {n j : Int32} {vs : List Value} {dv : Value} {x : Int32} (v' : Int32) (hv' : x = v')
    (eT : T.heap = h) (V : Arv Z h a k .int n vs dv) (hj : ¬ j < 0 ∧ j < n) (i : Nat) (hi : j.toNatClampNeg = i) (hil : i < vs.length) (vs' : List Value) (hvs : vs.set i (.int v') = vs') (hfit : fits .int (.int v') = true) (N : Fr n0 locs) (ga : n0 ≤ a) (hd : decode bc pc = .ok (.iastore, 1)) (hp : pc + 1 = pc')
    (kt : ∀ T' h' L', Stand p l e R s m args below meth c T' L' cells slots → T'.heap = h' → Wr h h' a j.toNatClampNeg (.int v') → Arv Z h' a k .int n vs' dv → Fr n0 L' → Ends p.tables e below Fz (T'.setTop (mkF m pc' Ls st))) : Ends p.tables e below Fz (T.setTop (mkF m pc Ls (.int x :: .int j :: .ref a :: st))) := by
  subst hp hvs hv'
  obtain ⟨cl, A, q1, Sz, Nn, H, G⟩ := V
  obtain ⟨T', h', X', e', W', st⟩ := stI X hx hZ eT A (j := j) (inb_of Sz hj) (g := mkF m pc Ls (.int x :: .int j :: .ref a :: st)) rfl rfl (hb hby hd)
  exact Ends.of st (kt T' h' _ X' e' W' (Arv.set A q1 Sz Nn H G hfit W' i hi hil) (Fr.snoc X' N ga))
theorem own_inb {j n : Int32} (h1 : 0 ≤ j.toInt) (h2 : j.toInt < n.toInt) : ¬ j < 0 ∧ j < n := ⟨fun q => by rw [Int32.lt_iff_toInt_lt] at q; have k0 : (0 : Int32).toInt = 0 := rfl; omega, Int32.lt_iff_toInt_lt.mpr h2⟩
theorem own_ge {b : Addr} (O : Old Z n0 h) (g : b = h.size) : n0 ≤ b := by rw [g]; exact O.1 ▸ O.2.1
theorem own_lt {x b : Addr} (hx : x < h.size) (g : b = h.size) : x ≠ b := by rw [g]; exact Nat.ne_of_lt hx
theorem own_private (X : Stand p l e R s m args below meth c T locs cells slots) (hx : p.tables.exec = Jvm.exec) (hby : c.code = bc) (hZ : Z.Warmed39 s.vm) {own Ce : String} {index kk : Nat} {y : MethodName} {bytes : ByteArray} {maxL : Nat} {rt r : Option FieldType} {ps : List FieldType} {rm : Room} {a : Addr} {argsL rest : List Value} {Qc : Option Value → Heap → List Loc → Prop} {W : Nat}
    (hown : s.vm.findClass own = some m.cls) (w1 : (Jvm.Cond.methodLink own index y).before a0 Z = true) (wi : (Jvm.Cond.instantiable y.cls kk).before a0 Z = true) (wp : (Jvm.Cond.privateMethod y).before a0 Z = true) (w2 : (Jvm.Cond.instanceMethod y).before a0 Z = true) (w3 : (Jvm.Cond.initialized y.cls).before a0 Z = true) (w4 : (Jvm.Cond.code y bytes maxL rt).before a0 Z = true) (hy : y.cls ≠ "java/lang/invoke/MethodHandle" ∧ y.cls ≠ "java/lang/invoke/VarHandle")
    (hM : OwnMet l Z y bytes maxL rt [] rm (Value.ref a :: argsL).toArray h Qc) (E : Exa Z h a Ce) (eT : T.heap = h) (hml : Ls.size = c.maxLocals) (hlen : parseMethodDescriptor y.desc = some ⟨ps, r⟩) (hl : argsL.length = ps.length) (hf : rm.frames + 1 ≤ R.frames) (hW : (rest.map fun v => v.category).sum ≤ W) (hlo : W + (maxL + 11) + rm.locals ≤ R.locals) (hc : cells + rm.cells ≤ R.cells) (hs : slots + rm.slots ≤ R.slots)
    (hd : decode bc pc = .ok (.invokevirtual index, 3)) (hp : pc + 3 = pc') (hst : st = argsL.reverse ++ Value.ref a :: rest)
    (kt : ∀ v T' L, Stand p l e R s m args below meth c T' (locs ++ L) (cells + rm.cells) (slots + rm.slots) → Qc v T'.heap L → Ends p.tables e below Fz (T'.setTop (mkF m pc' Ls (v.toList ++ rest)))) : Ends p.tables e below Fz (T.setTop (mkF m pc Ls st)) := by
  subst hp hst
  have hi : (Jvm.Cond.instantiable y.cls kk).before args s = true := mvT hZ wi
  obtain ⟨c2, kP, i1, hkP, -, i4, -⟩ := Jvm.Cond.instantiable_spec hi
  have hkPi : kP.isInterface = false := by simp only [Bool.or_eq_false_iff] at i4; exact i4.1
  have hpriv := Jvm.Cond.privateMethod_at (mvP hZ wp (args := #[]))
  have hinst : (Jvm.Cond.instanceMethod y).before args s = true := mvT hZ w2
  have hsel := Jvm.Stand.selects_self_of_private (args := args) i1 hkP hkPi hpriv hinst hy
  obtain ⟨cell, q1, q2⟩ := E.cell
  obtain ⟨v, vm₁, ⟨T', L', k', n'⟩, -, X', ⟨Lc, hQ, l', y', z'⟩, st⟩ := X.privateBack hx (y := y) hown (mvT hZ w1) hinst hsel hpriv (mvT hZ w4) hy (backOf (W := W) hM hZ w4 w3 hf hlo) (g := mkF m pc Ls (argsL.reverse ++ Value.ref a :: rest)) rfl hml (Steps.refl _) (a := a) (by rw [eT]; exact q1) q2 (argsL := argsL) (rest := rest) (lenOf hlen hl) rfl (by show 2 * 0 + _ ≤ _; omega) (hb hby hd) (fun _ _ => ⟨rfl, eT, hc, hs⟩)
  dsimp only [Pt.U, Pt.locs, Pt.cells, Pt.slots] at X' l' y' z' st hQ
  subst l' y' z'
  exact Ends.tr st (kt v T' Lc X' hQ)
end OwnH

def own_g (P : List Int32) (j : Int32) : Int32 := P.getD j.toNatClampNeg 0
def own_rt (P : List Int32) : Nat → Int32 → Int32
  | 0, r => r
  | f + 1, r => if own_g P r = r then r else own_rt P f (own_g P r)
def own_cp : Nat → List Int32 → Int32 → Int32 → List Int32
  | 0, P, _, _ => P
  | f + 1, P, i, r => if own_g P i = r then P else own_cp f (P.set i.toNatClampNeg r) (own_g P i) r
def own_max (a b : Int32) : Int32 := if a.toInt < b.toInt then b else a
def own_min (a b : Int32) : Int32 := if b.toInt < a.toInt then b else a
def own_p1 (P : List Int32) (a : Int32) : List Int32 := own_cp 4 P a (own_rt P 4 a)
def own_jn (P : List Int32) (a b : Int32) : List Int32 := if own_rt P 4 a = own_rt (own_p1 P a) 4 b then own_p1 (own_p1 P a) b else (own_p1 (own_p1 P a) b).set (own_max (own_rt P 4 a) (own_rt (own_p1 P a) 4 b)).toNatClampNeg (own_min (own_rt P 4 a) (own_rt (own_p1 P a) 4 b))
def own_jc (P : List Int32) (a b c : Int32) : Int32 := if own_rt P 4 a = own_rt (own_p1 P a) 4 b then c else c - 1
def own_rl (l : List Int32) (la lb : Int32) : List Int32 := if la = lb then l else l.map fun x => if x = lb then la else x
def own_wh (c : Int32) : Int32 := if 1 < c.toInt then 0 else 1
def own_idx (n : Int32) : List Int32 := (List.range n.toNatClampNeg).map Int32.ofNat
abbrev OwnT := List Int32 × Int32 × List Int32
def OwnOk (n : Int32) (A : List (List Int32)) : Prop := ∀ P ∈ A, P.length = n.toNatClampNeg ∧ ∀ j ∈ own_idx n, 0 ≤ (own_g P j).toInt ∧ (own_g P j = j ∨ (own_g P j).toInt < j.toInt) ∧ (0 ≤ (own_rt P 4 j).toInt ∧ (own_rt P 4 j).toInt < n.toInt) ∧ own_p1 P j ∈ A ∧
  (own_g P j = own_rt P 4 j ∨ (P.set j.toNatClampNeg (own_rt P 4 j) ∈ A ∧ own_rt (P.set j.toNatClampNeg (own_rt P 4 j)) 4 (own_g P j) = own_rt P 4 j ∧ (own_g P j).toInt < j.toInt))
def OwnSt (n : Int32) (A : List (List Int32)) (R : List OwnT) : Prop := ∀ t ∈ R, t.1 ∈ A ∧ t.2.2.length = 4 ∧ ∀ a ∈ own_idx n, ∀ b ∈ own_idx n, ((own_jn t.1 a b, own_jc t.1 a b t.2.1, own_rl t.2.2 (own_g t.2.2 a) (own_g t.2.2 b)) : OwnT) ∈ R
theorem own_nc {j : Int32} (h : 0 ≤ j.toInt) : (j.toNatClampNeg : Int) = j.toInt := Int.toNat_of_nonneg h
theorem own_mem {j n : Int32} (h1 : 0 ≤ j.toInt) (h2 : j.toInt < n.toInt) : j ∈ own_idx n := by
  have q1 := own_nc h1; have q2 := own_nc (j := n) (by omega)
  refine List.mem_map.mpr ⟨j.toNatClampNeg, List.mem_range.mpr (by omega), ?_⟩
  apply Int32.toInt_inj.mp
  rw [Int32.toInt_ofNat_of_lt (by have := rng32 j; omega)]; exact q1
theorem own_gm (P : List Int32) (j : Int32) : (P.map Value.int).getD j.toNatClampNeg (.int 0) = .int (own_g P j) := by
  simp only [own_g, List.getD_eq_getElem?_getD, List.getElem?_map]
  cases P[j.toNatClampNeg]? <;> rfl
theorem own_sm (P : List Int32) (i : Nat) (r : Int32) : (P.map Value.int).set i (.int r) = (P.set i r).map Value.int := (List.map_set ..).symm
theorem own_maxin {a b n : Int32} (h1 : 0 ≤ a.toInt ∧ a.toInt < n.toInt) (h2 : 0 ≤ b.toInt ∧ b.toInt < n.toInt) : 0 ≤ (own_max a b).toInt ∧ (own_max a b).toInt < n.toInt := by unfold own_max; split <;> assumption
theorem own_rem (p n : Int32) (hn : 0 < n.toInt) : 0 ≤ ((p &&& (255 : Int32)) % n).toInt ∧ ((p &&& (255 : Int32)) % n).toInt < n.toInt := by
  have k1 := c_mask p (255 : Int32) 8 (by decide) (by decide)
  have k2 := (c_iremV (p &&& (255 : Int32)) n).1 (by omega) hn
  exact ⟨k2.1, k2.2.1⟩
theorem own_len4 {l : List Int32} (h : l.length = 4) : ∃ l0 l1 l2 l3, l = [l0, l1, l2, l3] := by
  match l, h with
  | [a, b, c, d], _ => exact ⟨a, b, c, d, rfl⟩
theorem own_n5 (x : Int32) : (x &&& (15 : Int32)) % (5 : Int32) = 0 ∨ (x &&& (15 : Int32)) % (5 : Int32) = 1 ∨ (x &&& (15 : Int32)) % (5 : Int32) = 2 ∨ (x &&& (15 : Int32)) % (5 : Int32) = 3 ∨ (x &&& (15 : Int32)) % (5 : Int32) = 4 := by
  have k1 := c_mask x (15 : Int32) 4 (by decide) (by decide)
  have k2 := (c_irem (x &&& (15 : Int32)) (5 : Int32) 5 rfl).1 (by omega)
  have h : ((x &&& (15 : Int32)) % (5 : Int32)).toInt = 0 ∨ ((x &&& (15 : Int32)) % (5 : Int32)).toInt = 1 ∨ ((x &&& (15 : Int32)) % (5 : Int32)).toInt = 2 ∨ ((x &&& (15 : Int32)) % (5 : Int32)).toInt = 3 ∨ ((x &&& (15 : Int32)) % (5 : Int32)).toInt = 4 := by omega
  rcases h with h | h | h | h | h
  · exact Or.inl (Int32.toInt_inj.mp h)
  · exact Or.inr (Or.inl (Int32.toInt_inj.mp h))
  · exact Or.inr (Or.inr (Or.inl (Int32.toInt_inj.mp h)))
  · exact Or.inr (Or.inr (Or.inr (Or.inl (Int32.toInt_inj.mp h))))
  · exact Or.inr (Or.inr (Or.inr (Or.inr (Int32.toInt_inj.mp h))))
def own_A1 : List (List Int32) := [[0]]
def own_R1 : List OwnT := [([0], 1, [0, 1, 2, 3])]
theorem own_ok1 : OwnOk 1 own_A1 := by unfold OwnOk; decide +kernel
theorem own_st1 : OwnSt 1 own_A1 own_R1 := by unfold OwnSt; decide +kernel
theorem own_fin1 {P : List Int32} {c l0 l1 l2 l3 : Int32} (h : ((P, c, [l0, l1, l2, l3]) : OwnT) ∈ own_R1) : c.toInt ≤ 1 ↔ True := by
  have q : ∀ t ∈ own_R1, t.2.1.toInt ≤ 1 ↔ True := by decide +kernel
  exact q _ h
def own_A2 : List (List Int32) := [[0, 0], [0, 1]]
def own_R2 : List OwnT := [([0, 0], 1, [0, 0, 2, 3]), ([0, 0], 1, [1, 1, 2, 3]), ([0, 1], 2, [0, 1, 2, 3])]
theorem own_ok2 : OwnOk 2 own_A2 := by unfold OwnOk; decide +kernel
theorem own_st2 : OwnSt 2 own_A2 own_R2 := by unfold OwnSt; decide +kernel
theorem own_fin2 {P : List Int32} {c l0 l1 l2 l3 : Int32} (h : ((P, c, [l0, l1, l2, l3]) : OwnT) ∈ own_R2) : c.toInt ≤ 1 ↔ l1 = l0 := by
  have q : ∀ t ∈ own_R2, t.2.1.toInt ≤ 1 ↔ own_g t.2.2 1 = own_g t.2.2 0 := by decide +kernel
  exact q _ h
def own_A3 : List (List Int32) := [[0, 0, 0], [0, 0, 1], [0, 0, 2], [0, 1, 0], [0, 1, 1], [0, 1, 2]]
def own_R3 : List OwnT := [([0, 0, 0], 1, [0, 0, 0, 3]), ([0, 0, 0], 1, [1, 1, 1, 3]), ([0, 0, 0], 1, [2, 2, 2, 3]), ([0, 0, 1], 1, [0, 0, 0, 3]), ([0, 0, 1], 1, [1, 1, 1, 3]), ([0, 0, 1], 1, [2, 2, 2, 3]), ([0, 0, 2], 2, [0, 0, 2, 3]), ([0, 0, 2], 2, [1, 1, 2, 3]), ([0, 1, 0], 2, [0, 1, 0, 3]), ([0, 1, 0], 2, [2, 1, 2, 3]), ([0, 1, 1], 2, [0, 1, 1, 3]), ([0, 1, 1], 2, [0, 2, 2, 3]), ([0, 1, 2], 3, [0, 1, 2, 3])]
theorem own_ok3 : OwnOk 3 own_A3 := by unfold OwnOk; decide +kernel
theorem own_st3 : OwnSt 3 own_A3 own_R3 := by unfold OwnSt; decide +kernel
theorem own_fin3 {P : List Int32} {c l0 l1 l2 l3 : Int32} (h : ((P, c, [l0, l1, l2, l3]) : OwnT) ∈ own_R3) : c.toInt ≤ 1 ↔ l1 = l0 ∧ l2 = l0 := by
  have q : ∀ t ∈ own_R3, t.2.1.toInt ≤ 1 ↔ own_g t.2.2 1 = own_g t.2.2 0 ∧ own_g t.2.2 2 = own_g t.2.2 0 := by decide +kernel
  exact q _ h
def own_A4 : List (List Int32) := [[0, 0, 0, 0], [0, 0, 0, 1], [0, 0, 0, 2], [0, 0, 0, 3], [0, 0, 1, 0], [0, 0, 1, 1], [0, 0, 1, 2], [0, 0, 1, 3], [0, 0, 2, 0], [0, 0, 2, 1], [0, 0, 2, 2], [0, 0, 2, 3], [0, 1, 0, 0], [0, 1, 0, 1], [0, 1, 0, 2], [0, 1, 0, 3], [0, 1, 1, 0], [0, 1, 1, 1], [0, 1, 1, 2], [0, 1, 1, 3], [0, 1, 2, 0], [0, 1, 2, 1], [0, 1, 2, 2], [0, 1, 2, 3]]
def own_R4 : List OwnT := [([0, 0, 0, 0], 1, [0, 0, 0, 0]), ([0, 0, 0, 0], 1, [1, 1, 1, 1]), ([0, 0, 0, 0], 1, [2, 2, 2, 2]), ([0, 0, 0, 0], 1, [3, 3, 3, 3]), ([0, 0, 0, 1], 1, [0, 0, 0, 0]), ([0, 0, 0, 1], 1, [1, 1, 1, 1]), ([0, 0, 0, 1], 1, [2, 2, 2, 2]), ([0, 0, 0, 1], 1, [3, 3, 3, 3]), ([0, 0, 0, 2], 1, [0, 0, 0, 0]), ([0, 0, 0, 2], 1, [1, 1, 1, 1]), ([0, 0, 0, 2], 1, [2, 2, 2, 2]), ([0, 0, 0, 2], 1, [3, 3, 3, 3]), ([0, 0, 0, 3], 2, [0, 0, 0, 3]), ([0, 0, 0, 3], 2, [1, 1, 1, 3]), ([0, 0, 0, 3], 2, [2, 2, 2, 3]), ([0, 0, 1, 0], 1, [0, 0, 0, 0]), ([0, 0, 1, 0], 1, [1, 1, 1, 1]), ([0, 0, 1, 0], 1, [2, 2, 2, 2]), ([0, 0, 1, 0], 1, [3, 3, 3, 3]), ([0, 0, 1, 1], 1, [0, 0, 0, 0]), ([0, 0, 1, 1], 1, [1, 1, 1, 1]), ([0, 0, 1, 1], 1, [2, 2, 2, 2]), ([0, 0, 1, 1], 1, [3, 3, 3, 3]), ([0, 0, 1, 2], 1, [0, 0, 0, 0]), ([0, 0, 1, 2], 1, [1, 1, 1, 1]), ([0, 0, 1, 2], 1, [2, 2, 2, 2]), ([0, 0, 1, 2], 1, [3, 3, 3, 3]), ([0, 0, 1, 3], 2, [0, 0, 0, 3]), ([0, 0, 1, 3], 2, [1, 1, 1, 3]), ([0, 0, 1, 3], 2, [2, 2, 2, 3]), ([0, 0, 2, 0], 2, [0, 0, 2, 0]), ([0, 0, 2, 0], 2, [1, 1, 2, 1]), ([0, 0, 2, 0], 2, [3, 3, 2, 3]), ([0, 0, 2, 1], 2, [0, 0, 2, 0]), ([0, 0, 2, 1], 2, [1, 1, 2, 1]), ([0, 0, 2, 1], 2, [3, 3, 2, 3]), ([0, 0, 2, 2], 2, [0, 0, 2, 2]), ([0, 0, 2, 2], 2, [0, 0, 3, 3]), ([0, 0, 2, 2], 2, [1, 1, 2, 2]), ([0, 0, 2, 2], 2, [1, 1, 3, 3]), ([0, 0, 2, 3], 3, [0, 0, 2, 3]), ([0, 0, 2, 3], 3, [1, 1, 2, 3]), ([0, 1, 0, 0], 2, [0, 1, 0, 0]), ([0, 1, 0, 0], 2, [2, 1, 2, 2]), ([0, 1, 0, 0], 2, [3, 1, 3, 3]), ([0, 1, 0, 1], 2, [0, 1, 0, 1]), ([0, 1, 0, 1], 2, [0, 3, 0, 3]), ([0, 1, 0, 1], 2, [2, 1, 2, 1]), ([0, 1, 0, 1], 2, [2, 3, 2, 3]), ([0, 1, 0, 2], 2, [0, 1, 0, 0]), ([0, 1, 0, 2], 2, [2, 1, 2, 2]), ([0, 1, 0, 2], 2, [3, 1, 3, 3]), ([0, 1, 0, 3], 3, [0, 1, 0, 3]), ([0, 1, 0, 3], 3, [2, 1, 2, 3]), ([0, 1, 1, 0], 2, [0, 1, 1, 0]), ([0, 1, 1, 0], 2, [0, 2, 2, 0]), ([0, 1, 1, 0], 2, [3, 1, 1, 3]), ([0, 1, 1, 0], 2, [3, 2, 2, 3]), ([0, 1, 1, 1], 2, [0, 1, 1, 1]), ([0, 1, 1, 1], 2, [0, 2, 2, 2]), ([0, 1, 1, 1], 2, [0, 3, 3, 3]), ([0, 1, 1, 2], 2, [0, 1, 1, 1]), ([0, 1, 1, 2], 2, [0, 2, 2, 2]), ([0, 1, 1, 2], 2, [0, 3, 3, 3]), ([0, 1, 1, 3], 3, [0, 1, 1, 3]), ([0, 1, 1, 3], 3, [0, 2, 2, 3]), ([0, 1, 2, 0], 3, [0, 1, 2, 0]), ([0, 1, 2, 0], 3, [3, 1, 2, 3]), ([0, 1, 2, 1], 3, [0, 1, 2, 1]), ([0, 1, 2, 1], 3, [0, 3, 2, 3]), ([0, 1, 2, 2], 3, [0, 1, 2, 2]), ([0, 1, 2, 2], 3, [0, 1, 3, 3]), ([0, 1, 2, 3], 4, [0, 1, 2, 3])]
theorem own_ok4 : OwnOk 4 own_A4 := by unfold OwnOk; decide +kernel
theorem own_st4 : OwnSt 4 own_A4 own_R4 := by unfold OwnSt; decide +kernel
theorem own_fin4 {P : List Int32} {c l0 l1 l2 l3 : Int32} (h : ((P, c, [l0, l1, l2, l3]) : OwnT) ∈ own_R4) : c.toInt ≤ 1 ↔ l1 = l0 ∧ l2 = l0 ∧ l3 = l0 := by
  have q : ∀ t ∈ own_R4, t.2.1.toInt ≤ 1 ↔ own_g t.2.2 1 = own_g t.2.2 0 ∧ own_g t.2.2 2 = own_g t.2.2 0 ∧ own_g t.2.2 3 = own_g t.2.2 0 := by decide +kernel
  exact q _ h
theorem tw_0 : (Jvm.Cond.arrayClass Jvm.ClassFile.FieldType.int) ∈ tables_1 := List.mem_of_getElem? (i := 0) rfl
theorem tw_1 : (Jvm.Cond.classLink "com/example/weftwork/weftwork/model/ComponentsWholePinLaw" (7 : Nat) "com/example/weftwork/weftwork/model/Components") ∈ tables_1 := List.mem_of_getElem? (i := 1) rfl
theorem tw_2 : (Jvm.Cond.instantiable "com/example/weftwork/weftwork/model/Components" (2 : Nat)) ∈ tables_1 := List.mem_of_getElem? (i := 2) rfl
theorem tw_3 : (Jvm.Cond.initialized "com/example/weftwork/weftwork/model/Components") ∈ tables_1 := List.mem_of_getElem? (i := 3) rfl
theorem tw_4 : (Jvm.Cond.methodLink "com/example/weftwork/weftwork/model/ComponentsWholePinLaw" (9 : Nat) ({ cls := "com/example/weftwork/weftwork/model/Components", name := "<init>", desc := "(I)V" } : Jvm.MethodName)) ∈ tables_1 := List.mem_of_getElem? (i := 4) rfl
theorem tw_5 : (Jvm.Cond.instanceMethod ({ cls := "com/example/weftwork/weftwork/model/Components", name := "<init>", desc := "(I)V" } : Jvm.MethodName)) ∈ tables_1 := List.mem_of_getElem? (i := 5) rfl
theorem tw_6 : (Jvm.Cond.code ({ cls := "com/example/weftwork/weftwork/model/Components", name := "<init>", desc := "(I)V" } : Jvm.MethodName) prog_43_method_1_code (3 : Nat) (Option.none : Option Jvm.ClassFile.FieldType)) ∈ tables_1 := List.mem_of_getElem? (i := 6) rfl
theorem tw_7 : (Jvm.Cond.methodLink "com/example/weftwork/weftwork/model/Components" (1 : Nat) ({ cls := "java/lang/Object", name := "<init>", desc := "()V" } : Jvm.MethodName)) ∈ tables_1 := List.mem_of_getElem? (i := 7) rfl
theorem tw_8 : (Jvm.Cond.instanceMethod ({ cls := "java/lang/Object", name := "<init>", desc := "()V" } : Jvm.MethodName)) ∈ tables_1 := List.mem_of_getElem? (i := 8) rfl
theorem tw_9 : (Jvm.Cond.code ({ cls := "java/lang/Object", name := "<init>", desc := "()V" } : Jvm.MethodName) object_method_1_code (1 : Nat) (Option.none : Option Jvm.ClassFile.FieldType)) ∈ tables_1 := List.mem_of_getElem? (i := 9) rfl
theorem tw_10 : (Jvm.Cond.fieldLink "com/example/weftwork/weftwork/model/Components" (7 : Nat) "com/example/weftwork/weftwork/model/Components" "parent" "[I") ∈ tables_1 := List.mem_of_getElem? (i := 10) rfl
theorem tw_11 : (Jvm.Cond.laysFinal "com/example/weftwork/weftwork/model/Components" "com/example/weftwork/weftwork/model/Components" "parent" "[I") ∈ tables_1 := List.mem_of_getElem? (i := 11) rfl
theorem tw_12 : (Jvm.Cond.fieldLink "com/example/weftwork/weftwork/model/Components" (13 : Nat) "com/example/weftwork/weftwork/model/Components" "count" "I") ∈ tables_1 := List.mem_of_getElem? (i := 12) rfl
theorem tw_13 : (Jvm.Cond.lays "com/example/weftwork/weftwork/model/Components" "com/example/weftwork/weftwork/model/Components" "count" "I") ∈ tables_1 := List.mem_of_getElem? (i := 13) rfl
theorem tw_14 : (Jvm.Cond.methodLink "com/example/weftwork/weftwork/model/ComponentsWholePinLaw" (18 : Nat) ({ cls := "com/example/weftwork/weftwork/model/Components", name := "whole", desc := "()Z" } : Jvm.MethodName)) ∈ tables_1 := List.mem_of_getElem? (i := 14) rfl
theorem tw_15 : (Jvm.Cond.declares ({ cls := "com/example/weftwork/weftwork/model/Components", name := "whole", desc := "()Z" } : Jvm.MethodName)) ∈ tables_1 := List.mem_of_getElem? (i := 15) rfl
theorem tw_16 : (Jvm.Cond.instanceMethod ({ cls := "com/example/weftwork/weftwork/model/Components", name := "whole", desc := "()Z" } : Jvm.MethodName)) ∈ tables_1 := List.mem_of_getElem? (i := 16) rfl
theorem tw_17 : (Jvm.Cond.selects "com/example/weftwork/weftwork/model/Components" ({ cls := "com/example/weftwork/weftwork/model/Components", name := "whole", desc := "()Z" } : Jvm.MethodName) ({ cls := "com/example/weftwork/weftwork/model/Components", name := "whole", desc := "()Z" } : Jvm.MethodName)) ∈ tables_1 := List.mem_of_getElem? (i := 17) rfl
theorem tw_18 : (Jvm.Cond.code ({ cls := "com/example/weftwork/weftwork/model/Components", name := "whole", desc := "()Z" } : Jvm.MethodName) prog_43_method_3_code (1 : Nat) (Option.some Jvm.ClassFile.FieldType.boolean)) ∈ tables_1 := List.mem_of_getElem? (i := 18) rfl
theorem tw_19 : (Jvm.Cond.methodLink "com/example/weftwork/weftwork/model/ComponentsWholePinLaw" (12 : Nat) ({ cls := "com/example/weftwork/weftwork/model/ComponentsWholePinLaw", name := "step", desc := "(Lcom/example/weftwork/weftwork/model/Components;[III)V" } : Jvm.MethodName)) ∈ tables_1 := List.mem_of_getElem? (i := 19) rfl
theorem tw_20 : (Jvm.Cond.static ({ cls := "com/example/weftwork/weftwork/model/ComponentsWholePinLaw", name := "step", desc := "(Lcom/example/weftwork/weftwork/model/Components;[III)V" } : Jvm.MethodName)) ∈ tables_1 := List.mem_of_getElem? (i := 20) rfl
theorem tw_21 : (Jvm.Cond.initialized "com/example/weftwork/weftwork/model/ComponentsWholePinLaw") ∈ tables_1 := List.mem_of_getElem? (i := 21) rfl
theorem tw_22 : (Jvm.Cond.code ({ cls := "com/example/weftwork/weftwork/model/ComponentsWholePinLaw", name := "step", desc := "(Lcom/example/weftwork/weftwork/model/Components;[III)V" } : Jvm.MethodName) method_3_code (8 : Nat) (Option.none : Option Jvm.ClassFile.FieldType)) ∈ tables_1 := List.mem_of_getElem? (i := 22) rfl
theorem tw_23 : (Jvm.Cond.methodLink "com/example/weftwork/weftwork/model/ComponentsWholePinLaw" (22 : Nat) ({ cls := "com/example/weftwork/weftwork/model/Components", name := "join", desc := "(II)V" } : Jvm.MethodName)) ∈ tables_1 := List.mem_of_getElem? (i := 23) rfl
theorem tw_24 : (Jvm.Cond.declares ({ cls := "com/example/weftwork/weftwork/model/Components", name := "join", desc := "(II)V" } : Jvm.MethodName)) ∈ tables_1 := List.mem_of_getElem? (i := 24) rfl
theorem tw_25 : (Jvm.Cond.instanceMethod ({ cls := "com/example/weftwork/weftwork/model/Components", name := "join", desc := "(II)V" } : Jvm.MethodName)) ∈ tables_1 := List.mem_of_getElem? (i := 25) rfl
theorem tw_26 : (Jvm.Cond.selects "com/example/weftwork/weftwork/model/Components" ({ cls := "com/example/weftwork/weftwork/model/Components", name := "join", desc := "(II)V" } : Jvm.MethodName) ({ cls := "com/example/weftwork/weftwork/model/Components", name := "join", desc := "(II)V" } : Jvm.MethodName)) ∈ tables_1 := List.mem_of_getElem? (i := 26) rfl
theorem tw_27 : (Jvm.Cond.code ({ cls := "com/example/weftwork/weftwork/model/Components", name := "join", desc := "(II)V" } : Jvm.MethodName) prog_43_method_2_code (5 : Nat) (Option.none : Option Jvm.ClassFile.FieldType)) ∈ tables_1 := List.mem_of_getElem? (i := 27) rfl
theorem tw_28 : (Jvm.Cond.methodLink "com/example/weftwork/weftwork/model/Components" (17 : Nat) ({ cls := "com/example/weftwork/weftwork/model/Components", name := "root", desc := "(I)I" } : Jvm.MethodName)) ∈ tables_1 := List.mem_of_getElem? (i := 28) rfl
theorem tw_29 : (Jvm.Cond.instanceMethod ({ cls := "com/example/weftwork/weftwork/model/Components", name := "root", desc := "(I)I" } : Jvm.MethodName)) ∈ tables_1 := List.mem_of_getElem? (i := 29) rfl
theorem tw_30 : (Jvm.Cond.privateMethod ({ cls := "com/example/weftwork/weftwork/model/Components", name := "root", desc := "(I)I" } : Jvm.MethodName)) ∈ tables_1 := List.mem_of_getElem? (i := 30) rfl
theorem tw_31 : (Jvm.Cond.code ({ cls := "com/example/weftwork/weftwork/model/Components", name := "root", desc := "(I)I" } : Jvm.MethodName) prog_43_method_5_code (4 : Nat) (Option.some Jvm.ClassFile.FieldType.int)) ∈ tables_1 := List.mem_of_getElem? (i := 31) rfl
theorem tw_32 : (Jvm.Cond.methodLink "com/example/weftwork/weftwork/model/Components" (21 : Nat) ({ cls := "java/lang/Math", name := "max", desc := "(II)I" } : Jvm.MethodName)) ∈ tables_1 := List.mem_of_getElem? (i := 32) rfl
theorem tw_33 : (Jvm.Cond.static ({ cls := "java/lang/Math", name := "max", desc := "(II)I" } : Jvm.MethodName)) ∈ tables_1 := List.mem_of_getElem? (i := 33) rfl
theorem tw_34 : (Jvm.Cond.initialized "java/lang/Math") ∈ tables_1 := List.mem_of_getElem? (i := 34) rfl
theorem tw_35 : (Jvm.Cond.code ({ cls := "java/lang/Math", name := "max", desc := "(II)I" } : Jvm.MethodName) jdk_29_method_65_code (2 : Nat) (Option.some Jvm.ClassFile.FieldType.int)) ∈ tables_1 := List.mem_of_getElem? (i := 35) rfl
theorem tw_36 : (Jvm.Cond.methodLink "com/example/weftwork/weftwork/model/Components" (27 : Nat) ({ cls := "java/lang/Math", name := "min", desc := "(II)I" } : Jvm.MethodName)) ∈ tables_1 := List.mem_of_getElem? (i := 36) rfl
theorem tw_37 : (Jvm.Cond.static ({ cls := "java/lang/Math", name := "min", desc := "(II)I" } : Jvm.MethodName)) ∈ tables_1 := List.mem_of_getElem? (i := 37) rfl
theorem tw_38 : (Jvm.Cond.code ({ cls := "java/lang/Math", name := "min", desc := "(II)I" } : Jvm.MethodName) jdk_29_method_69_code (2 : Nat) (Option.some Jvm.ClassFile.FieldType.int)) ∈ tables_1 := List.mem_of_getElem? (i := 38) rfl
theorem d1_0 : decode prog_43_method_1_code 0 = .ok (.aload_n 0, 1) := by decide +kernel
theorem d1_1 : decode prog_43_method_1_code 1 = .ok (.invokespecial 1, 3) := by decide +kernel
theorem d1_4 : decode prog_43_method_1_code 4 = .ok (.aload_n 0, 1) := by decide +kernel
theorem d1_5 : decode prog_43_method_1_code 5 = .ok (.iload_n 1, 1) := by decide +kernel
theorem d1_6 : decode prog_43_method_1_code 6 = .ok (.newarray .int, 2) := by decide +kernel
theorem d1_8 : decode prog_43_method_1_code 8 = .ok (.putfield 7, 3) := by decide +kernel
theorem d1_11 : decode prog_43_method_1_code 11 = .ok (.iconst 0, 1) := by decide +kernel
theorem d1_12 : decode prog_43_method_1_code 12 = .ok (.istore_n 2, 1) := by decide +kernel
theorem d1_13 : decode prog_43_method_1_code 13 = .ok (.iload_n 2, 1) := by decide +kernel
theorem d1_14 : decode prog_43_method_1_code 14 = .ok (.iload_n 1, 1) := by decide +kernel
theorem d1_15 : decode prog_43_method_1_code 15 = .ok (.if_icmp .ge 16, 3) := by decide +kernel
theorem d1_18 : decode prog_43_method_1_code 18 = .ok (.aload_n 0, 1) := by decide +kernel
theorem d1_19 : decode prog_43_method_1_code 19 = .ok (.getfield 7, 3) := by decide +kernel
theorem d1_22 : decode prog_43_method_1_code 22 = .ok (.iload_n 2, 1) := by decide +kernel
theorem d1_23 : decode prog_43_method_1_code 23 = .ok (.iload_n 2, 1) := by decide +kernel
theorem d1_24 : decode prog_43_method_1_code 24 = .ok (.iastore, 1) := by decide +kernel
theorem d1_25 : decode prog_43_method_1_code 25 = .ok (.iinc 2 1, 3) := by decide +kernel
theorem d1_28 : decode prog_43_method_1_code 28 = .ok (.goto (-15), 3) := by decide +kernel
theorem d1_31 : decode prog_43_method_1_code 31 = .ok (.aload_n 0, 1) := by decide +kernel
theorem d1_32 : decode prog_43_method_1_code 32 = .ok (.iload_n 1, 1) := by decide +kernel
theorem d1_33 : decode prog_43_method_1_code 33 = .ok (.putfield 13, 3) := by decide +kernel
theorem d1_36 : decode prog_43_method_1_code 36 = .ok (.return_, 1) := by decide +kernel
theorem d3_0 : decode prog_43_method_3_code 0 = .ok (.aload_n 0, 1) := by decide +kernel
theorem d3_1 : decode prog_43_method_3_code 1 = .ok (.getfield 13, 3) := by decide +kernel
theorem d3_4 : decode prog_43_method_3_code 4 = .ok (.iconst 1, 1) := by decide +kernel
theorem d3_5 : decode prog_43_method_3_code 5 = .ok (.if_icmp .gt 7, 3) := by decide +kernel
theorem d3_8 : decode prog_43_method_3_code 8 = .ok (.iconst 1, 1) := by decide +kernel
theorem d3_9 : decode prog_43_method_3_code 9 = .ok (.goto 4, 3) := by decide +kernel
theorem d3_12 : decode prog_43_method_3_code 12 = .ok (.iconst 0, 1) := by decide +kernel
theorem d3_13 : decode prog_43_method_3_code 13 = .ok (.ireturn, 1) := by decide +kernel
theorem d4_0 : decode method_3_code 0 = .ok (.iload_n 2, 1) := by decide +kernel
theorem d4_1 : decode method_3_code 1 = .ok (.sipush 255, 3) := by decide +kernel
theorem d4_4 : decode method_3_code 4 = .ok (.iand, 1) := by decide +kernel
theorem d4_5 : decode method_3_code 5 = .ok (.iload_n 3, 1) := by decide +kernel
theorem d4_6 : decode method_3_code 6 = .ok (.irem, 1) := by decide +kernel
theorem d4_7 : decode method_3_code 7 = .ok (.istore 4, 2) := by decide +kernel
theorem d4_9 : decode method_3_code 9 = .ok (.iload_n 2, 1) := by decide +kernel
theorem d4_10 : decode method_3_code 10 = .ok (.bipush 8, 2) := by decide +kernel
theorem d4_12 : decode method_3_code 12 = .ok (.iushr, 1) := by decide +kernel
theorem d4_13 : decode method_3_code 13 = .ok (.sipush 255, 3) := by decide +kernel
theorem d4_16 : decode method_3_code 16 = .ok (.iand, 1) := by decide +kernel
theorem d4_17 : decode method_3_code 17 = .ok (.iload_n 3, 1) := by decide +kernel
theorem d4_18 : decode method_3_code 18 = .ok (.irem, 1) := by decide +kernel
theorem d4_19 : decode method_3_code 19 = .ok (.istore 5, 2) := by decide +kernel
theorem d4_21 : decode method_3_code 21 = .ok (.aload_n 0, 1) := by decide +kernel
theorem d4_22 : decode method_3_code 22 = .ok (.iload 4, 2) := by decide +kernel
theorem d4_24 : decode method_3_code 24 = .ok (.iload 5, 2) := by decide +kernel
theorem d4_26 : decode method_3_code 26 = .ok (.invokevirtual 22, 3) := by decide +kernel
theorem d4_29 : decode method_3_code 29 = .ok (.aload_n 1, 1) := by decide +kernel
theorem d4_30 : decode method_3_code 30 = .ok (.iload 4, 2) := by decide +kernel
theorem d4_32 : decode method_3_code 32 = .ok (.iaload, 1) := by decide +kernel
theorem d4_33 : decode method_3_code 33 = .ok (.istore 6, 2) := by decide +kernel
theorem d4_35 : decode method_3_code 35 = .ok (.aload_n 1, 1) := by decide +kernel
theorem d4_36 : decode method_3_code 36 = .ok (.iload 5, 2) := by decide +kernel
theorem d4_38 : decode method_3_code 38 = .ok (.iaload, 1) := by decide +kernel
theorem d4_39 : decode method_3_code 39 = .ok (.istore 7, 2) := by decide +kernel
theorem d4_41 : decode method_3_code 41 = .ok (.iload 6, 2) := by decide +kernel
theorem d4_43 : decode method_3_code 43 = .ok (.iload 7, 2) := by decide +kernel
theorem d4_45 : decode method_3_code 45 = .ok (.if_icmp .eq 55, 3) := by decide +kernel
theorem d4_48 : decode method_3_code 48 = .ok (.aload_n 1, 1) := by decide +kernel
theorem d4_49 : decode method_3_code 49 = .ok (.iconst 0, 1) := by decide +kernel
theorem d4_50 : decode method_3_code 50 = .ok (.iaload, 1) := by decide +kernel
theorem d4_51 : decode method_3_code 51 = .ok (.iload 7, 2) := by decide +kernel
theorem d4_53 : decode method_3_code 53 = .ok (.if_icmp .ne 8, 3) := by decide +kernel
theorem d4_56 : decode method_3_code 56 = .ok (.aload_n 1, 1) := by decide +kernel
theorem d4_57 : decode method_3_code 57 = .ok (.iconst 0, 1) := by decide +kernel
theorem d4_58 : decode method_3_code 58 = .ok (.iload 6, 2) := by decide +kernel
theorem d4_60 : decode method_3_code 60 = .ok (.iastore, 1) := by decide +kernel
theorem d4_61 : decode method_3_code 61 = .ok (.aload_n 1, 1) := by decide +kernel
theorem d4_62 : decode method_3_code 62 = .ok (.iconst 1, 1) := by decide +kernel
theorem d4_63 : decode method_3_code 63 = .ok (.iaload, 1) := by decide +kernel
theorem d4_64 : decode method_3_code 64 = .ok (.iload 7, 2) := by decide +kernel
theorem d4_66 : decode method_3_code 66 = .ok (.if_icmp .ne 8, 3) := by decide +kernel
theorem d4_69 : decode method_3_code 69 = .ok (.aload_n 1, 1) := by decide +kernel
theorem d4_70 : decode method_3_code 70 = .ok (.iconst 1, 1) := by decide +kernel
theorem d4_71 : decode method_3_code 71 = .ok (.iload 6, 2) := by decide +kernel
theorem d4_73 : decode method_3_code 73 = .ok (.iastore, 1) := by decide +kernel
theorem d4_74 : decode method_3_code 74 = .ok (.aload_n 1, 1) := by decide +kernel
theorem d4_75 : decode method_3_code 75 = .ok (.iconst 2, 1) := by decide +kernel
theorem d4_76 : decode method_3_code 76 = .ok (.iaload, 1) := by decide +kernel
theorem d4_77 : decode method_3_code 77 = .ok (.iload 7, 2) := by decide +kernel
theorem d4_79 : decode method_3_code 79 = .ok (.if_icmp .ne 8, 3) := by decide +kernel
theorem d4_82 : decode method_3_code 82 = .ok (.aload_n 1, 1) := by decide +kernel
theorem d4_83 : decode method_3_code 83 = .ok (.iconst 2, 1) := by decide +kernel
theorem d4_84 : decode method_3_code 84 = .ok (.iload 6, 2) := by decide +kernel
theorem d4_86 : decode method_3_code 86 = .ok (.iastore, 1) := by decide +kernel
theorem d4_87 : decode method_3_code 87 = .ok (.aload_n 1, 1) := by decide +kernel
theorem d4_88 : decode method_3_code 88 = .ok (.iconst 3, 1) := by decide +kernel
theorem d4_89 : decode method_3_code 89 = .ok (.iaload, 1) := by decide +kernel
theorem d4_90 : decode method_3_code 90 = .ok (.iload 7, 2) := by decide +kernel
theorem d4_92 : decode method_3_code 92 = .ok (.if_icmp .ne 8, 3) := by decide +kernel
theorem d4_95 : decode method_3_code 95 = .ok (.aload_n 1, 1) := by decide +kernel
theorem d4_96 : decode method_3_code 96 = .ok (.iconst 3, 1) := by decide +kernel
theorem d4_97 : decode method_3_code 97 = .ok (.iload 6, 2) := by decide +kernel
theorem d4_99 : decode method_3_code 99 = .ok (.iastore, 1) := by decide +kernel
theorem d4_100 : decode method_3_code 100 = .ok (.return_, 1) := by decide +kernel
theorem d5_0 : decode prog_43_method_2_code 0 = .ok (.aload_n 0, 1) := by decide +kernel
theorem d5_1 : decode prog_43_method_2_code 1 = .ok (.iload_n 1, 1) := by decide +kernel
theorem d5_2 : decode prog_43_method_2_code 2 = .ok (.invokevirtual 17, 3) := by decide +kernel
theorem d5_5 : decode prog_43_method_2_code 5 = .ok (.istore_n 3, 1) := by decide +kernel
theorem d5_6 : decode prog_43_method_2_code 6 = .ok (.aload_n 0, 1) := by decide +kernel
theorem d5_7 : decode prog_43_method_2_code 7 = .ok (.iload_n 2, 1) := by decide +kernel
theorem d5_8 : decode prog_43_method_2_code 8 = .ok (.invokevirtual 17, 3) := by decide +kernel
theorem d5_11 : decode prog_43_method_2_code 11 = .ok (.istore 4, 2) := by decide +kernel
theorem d5_13 : decode prog_43_method_2_code 13 = .ok (.iload_n 3, 1) := by decide +kernel
theorem d5_14 : decode prog_43_method_2_code 14 = .ok (.iload 4, 2) := by decide +kernel
theorem d5_16 : decode prog_43_method_2_code 16 = .ok (.if_icmp .eq 30, 3) := by decide +kernel
theorem d5_19 : decode prog_43_method_2_code 19 = .ok (.aload_n 0, 1) := by decide +kernel
theorem d5_20 : decode prog_43_method_2_code 20 = .ok (.getfield 7, 3) := by decide +kernel
theorem d5_23 : decode prog_43_method_2_code 23 = .ok (.iload_n 3, 1) := by decide +kernel
theorem d5_24 : decode prog_43_method_2_code 24 = .ok (.iload 4, 2) := by decide +kernel
theorem d5_26 : decode prog_43_method_2_code 26 = .ok (.invokestatic 21, 3) := by decide +kernel
theorem d5_29 : decode prog_43_method_2_code 29 = .ok (.iload_n 3, 1) := by decide +kernel
theorem d5_30 : decode prog_43_method_2_code 30 = .ok (.iload 4, 2) := by decide +kernel
theorem d5_32 : decode prog_43_method_2_code 32 = .ok (.invokestatic 27, 3) := by decide +kernel
theorem d5_35 : decode prog_43_method_2_code 35 = .ok (.iastore, 1) := by decide +kernel
theorem d5_36 : decode prog_43_method_2_code 36 = .ok (.aload_n 0, 1) := by decide +kernel
theorem d5_37 : decode prog_43_method_2_code 37 = .ok (.dup, 1) := by decide +kernel
theorem d5_38 : decode prog_43_method_2_code 38 = .ok (.getfield 13, 3) := by decide +kernel
theorem d5_41 : decode prog_43_method_2_code 41 = .ok (.iconst 1, 1) := by decide +kernel
theorem d5_42 : decode prog_43_method_2_code 42 = .ok (.isub, 1) := by decide +kernel
theorem d5_43 : decode prog_43_method_2_code 43 = .ok (.putfield 13, 3) := by decide +kernel
theorem d5_46 : decode prog_43_method_2_code 46 = .ok (.return_, 1) := by decide +kernel
theorem d6_0 : decode prog_43_method_5_code 0 = .ok (.iload_n 1, 1) := by decide +kernel
theorem d6_1 : decode prog_43_method_5_code 1 = .ok (.istore_n 2, 1) := by decide +kernel
theorem d6_2 : decode prog_43_method_5_code 2 = .ok (.aload_n 0, 1) := by decide +kernel
theorem d6_3 : decode prog_43_method_5_code 3 = .ok (.getfield 7, 3) := by decide +kernel
theorem d6_6 : decode prog_43_method_5_code 6 = .ok (.iload_n 2, 1) := by decide +kernel
theorem d6_7 : decode prog_43_method_5_code 7 = .ok (.iaload, 1) := by decide +kernel
theorem d6_8 : decode prog_43_method_5_code 8 = .ok (.iload_n 2, 1) := by decide +kernel
theorem d6_9 : decode prog_43_method_5_code 9 = .ok (.if_icmp .eq 13, 3) := by decide +kernel
theorem d6_12 : decode prog_43_method_5_code 12 = .ok (.aload_n 0, 1) := by decide +kernel
theorem d6_13 : decode prog_43_method_5_code 13 = .ok (.getfield 7, 3) := by decide +kernel
theorem d6_16 : decode prog_43_method_5_code 16 = .ok (.iload_n 2, 1) := by decide +kernel
theorem d6_17 : decode prog_43_method_5_code 17 = .ok (.iaload, 1) := by decide +kernel
theorem d6_18 : decode prog_43_method_5_code 18 = .ok (.istore_n 2, 1) := by decide +kernel
theorem d6_19 : decode prog_43_method_5_code 19 = .ok (.goto (-17), 3) := by decide +kernel
theorem d6_22 : decode prog_43_method_5_code 22 = .ok (.aload_n 0, 1) := by decide +kernel
theorem d6_23 : decode prog_43_method_5_code 23 = .ok (.getfield 7, 3) := by decide +kernel
theorem d6_26 : decode prog_43_method_5_code 26 = .ok (.iload_n 1, 1) := by decide +kernel
theorem d6_27 : decode prog_43_method_5_code 27 = .ok (.iaload, 1) := by decide +kernel
theorem d6_28 : decode prog_43_method_5_code 28 = .ok (.iload_n 2, 1) := by decide +kernel
theorem d6_29 : decode prog_43_method_5_code 29 = .ok (.if_icmp .eq 22, 3) := by decide +kernel
theorem d6_32 : decode prog_43_method_5_code 32 = .ok (.aload_n 0, 1) := by decide +kernel
theorem d6_33 : decode prog_43_method_5_code 33 = .ok (.getfield 7, 3) := by decide +kernel
theorem d6_36 : decode prog_43_method_5_code 36 = .ok (.iload_n 1, 1) := by decide +kernel
theorem d6_37 : decode prog_43_method_5_code 37 = .ok (.iaload, 1) := by decide +kernel
theorem d6_38 : decode prog_43_method_5_code 38 = .ok (.istore_n 3, 1) := by decide +kernel
theorem d6_39 : decode prog_43_method_5_code 39 = .ok (.aload_n 0, 1) := by decide +kernel
theorem d6_40 : decode prog_43_method_5_code 40 = .ok (.getfield 7, 3) := by decide +kernel
theorem d6_43 : decode prog_43_method_5_code 43 = .ok (.iload_n 1, 1) := by decide +kernel
theorem d6_44 : decode prog_43_method_5_code 44 = .ok (.iload_n 2, 1) := by decide +kernel
theorem d6_45 : decode prog_43_method_5_code 45 = .ok (.iastore, 1) := by decide +kernel
theorem d6_46 : decode prog_43_method_5_code 46 = .ok (.iload_n 3, 1) := by decide +kernel
theorem d6_47 : decode prog_43_method_5_code 47 = .ok (.istore_n 1, 1) := by decide +kernel
theorem d6_48 : decode prog_43_method_5_code 48 = .ok (.goto (-26), 3) := by decide +kernel
theorem d6_51 : decode prog_43_method_5_code 51 = .ok (.iload_n 2, 1) := by decide +kernel
theorem d6_52 : decode prog_43_method_5_code 52 = .ok (.ireturn, 1) := by decide +kernel
theorem d7_0 : decode jdk_29_method_65_code 0 = .ok (.iload_n 0, 1) := by decide +kernel
theorem d7_1 : decode jdk_29_method_65_code 1 = .ok (.iload_n 1, 1) := by decide +kernel
theorem d7_2 : decode jdk_29_method_65_code 2 = .ok (.if_icmp .lt 7, 3) := by decide +kernel
theorem d7_5 : decode jdk_29_method_65_code 5 = .ok (.iload_n 0, 1) := by decide +kernel
theorem d7_6 : decode jdk_29_method_65_code 6 = .ok (.goto 4, 3) := by decide +kernel
theorem d7_9 : decode jdk_29_method_65_code 9 = .ok (.iload_n 1, 1) := by decide +kernel
theorem d7_10 : decode jdk_29_method_65_code 10 = .ok (.ireturn, 1) := by decide +kernel
theorem d8_0 : decode jdk_29_method_69_code 0 = .ok (.iload_n 0, 1) := by decide +kernel
theorem d8_1 : decode jdk_29_method_69_code 1 = .ok (.iload_n 1, 1) := by decide +kernel
theorem d8_2 : decode jdk_29_method_69_code 2 = .ok (.if_icmp .gt 7, 3) := by decide +kernel
theorem d8_5 : decode jdk_29_method_69_code 5 = .ok (.iload_n 0, 1) := by decide +kernel
theorem d8_6 : decode jdk_29_method_69_code 6 = .ok (.goto 4, 3) := by decide +kernel
theorem d8_9 : decode jdk_29_method_69_code 9 = .ok (.iload_n 1, 1) := by decide +kernel
theorem d8_10 : decode jdk_29_method_69_code 10 = .ok (.ireturn, 1) := by decide +kernel
theorem pd_0 : parseMethodDescriptor "(I)I" = some ⟨[.int], some .int⟩ := by decide +kernel
theorem pd_1 : parseMethodDescriptor "(II)I" = some ⟨[.int, .int], some .int⟩ := by decide +kernel
theorem pd_2 : parseMethodDescriptor "(II)V" = some ⟨[.int, .int], none⟩ := by decide +kernel
theorem pd_3 : parseMethodDescriptor "()Z" = some ⟨[], some .boolean⟩ := by decide +kernel
theorem pd_4 : parseMethodDescriptor "(I)V" = some ⟨[.int], none⟩ := by decide +kernel
theorem pd_5 : parseMethodDescriptor "(Lcom/example/weftwork/weftwork/model/Components;[III)V" = some ⟨[(.object "com/example/weftwork/weftwork/model/Components"), (.array .int), .int, .int], none⟩ := by decide +kernel
theorem pn_0 : plainName "com/example/weftwork/weftwork/model/Components" = true := by first | (simp [plainName, overriddenIn]; done) | decide +kernel
theorem pn_1 : plainName "com/example/weftwork/weftwork/model/ComponentsWholePinLaw" = true := by first | (simp [plainName, overriddenIn]; done) | decide +kernel
theorem ef_6 (m : MethodId) (x0 : Addr) (x1 : Int32) : entryFrame m #[(.ref x0), (.int x1)] 4 = mkF m 0 #[.val (.ref x0), .val (.int x1), .unset, .unset] [] := by first | (simp [entryFrame, mkF, argsToLocals, Value.category]; done) | rfl
theorem ef_7 (m : MethodId) (x0 : Int32) (x1 : Int32) : entryFrame m #[(.int x0), (.int x1)] 2 = mkF m 0 #[.val (.int x0), .val (.int x1)] [] := by first | (simp [entryFrame, mkF, argsToLocals, Value.category]; done) | rfl
theorem ef_8 (m : MethodId) (x0 : Int32) (x1 : Int32) : entryFrame m #[(.int x0), (.int x1)] 2 = mkF m 0 #[.val (.int x0), .val (.int x1)] [] := by first | (simp [entryFrame, mkF, argsToLocals, Value.category]; done) | rfl
theorem ef_3 (m : MethodId) (x0 : Addr) : entryFrame m #[(.ref x0)] 1 = mkF m 0 #[.val (.ref x0)] [] := by first | (simp [entryFrame, mkF, argsToLocals, Value.category]; done) | rfl
theorem ef_5 (m : MethodId) (x0 : Addr) (x1 : Int32) (x2 : Int32) : entryFrame m #[(.ref x0), (.int x1), (.int x2)] 5 = mkF m 0 #[.val (.ref x0), .val (.int x1), .val (.int x2), .unset, .unset] [] := by first | (simp [entryFrame, mkF, argsToLocals, Value.category]; done) | rfl
theorem ef_4 (m : MethodId) (x0 : Addr) (x1 : Addr) (x2 : Int32) (x3 : Int32) : entryFrame m #[(.ref x0), (.ref x1), (.int x2), (.int x3)] 8 = mkF m 0 #[.val (.ref x0), .val (.ref x1), .val (.int x2), .val (.int x3), .unset, .unset, .unset, .unset] [] := by first | (simp [entryFrame, mkF, argsToLocals, Value.category]; done) | rfl
theorem ef_1_0 (m : MethodId) (x0 : Addr) : entryFrame m #[(.ref x0), (.int (0 : Int32))] 3 = mkF m 0 #[.val (.ref x0), .val (.int (0 : Int32)), .unset] [] := by first | (simp [entryFrame, mkF, argsToLocals, Value.category]; done) | rfl
theorem ef_1_1 (m : MethodId) (x0 : Addr) : entryFrame m #[(.ref x0), (.int (1 : Int32))] 3 = mkF m 0 #[.val (.ref x0), .val (.int (1 : Int32)), .unset] [] := by first | (simp [entryFrame, mkF, argsToLocals, Value.category]; done) | rfl
theorem ef_1_2 (m : MethodId) (x0 : Addr) : entryFrame m #[(.ref x0), (.int (2 : Int32))] 3 = mkF m 0 #[.val (.ref x0), .val (.int (2 : Int32)), .unset] [] := by first | (simp [entryFrame, mkF, argsToLocals, Value.category]; done) | rfl
theorem ef_1_3 (m : MethodId) (x0 : Addr) : entryFrame m #[(.ref x0), (.int (3 : Int32))] 3 = mkF m 0 #[.val (.ref x0), .val (.int (3 : Int32)), .unset] [] := by first | (simp [entryFrame, mkF, argsToLocals, Value.category]; done) | rfl
theorem ef_1_4 (m : MethodId) (x0 : Addr) : entryFrame m #[(.ref x0), (.int (4 : Int32))] 3 = mkF m 0 #[.val (.ref x0), .val (.int (4 : Int32)), .unset] [] := by first | (simp [entryFrame, mkF, argsToLocals, Value.category]; done) | rfl
theorem ef_0 (m : MethodId) (x0 : Int32) (x1 : Int32) (x2 : Int32) (x3 : Int32) : entryFrame m #[(.int x0), (.int x1), (.int x2), (.int x3)] maxLocals = mkF m 0 #[.val (.int x0), .val (.int x1), .val (.int x2), .val (.int x3), .unset, .unset, .unset, .unset, .unset] [] := by first | (simp [entryFrame, mkF, argsToLocals, Value.category, maxLocals]; done) | rfl
set_option maxRecDepth 65536 in
set_option maxHeartbeats 40000000 in
theorem loopA {p : Program} {l : Launch} {e : Env} {R : Room} {s : State} {m : MethodId} {args : Array Value} {below : List Frame} {meth : Method} {c : Code} {Fz : Outcome → State → Prop} {Z : State} {a0 : Array Value} (hx : p.tables.exec = Jvm.exec) (hby : c.code = prog_43_method_5_code) (hml : c.maxLocals = 4) (hown : s.vm.findClass "com/example/weftwork/weftwork/model/Components" = some m.cls) (hZ : Z.Warmed39 s.vm) (hw : ∀ d ∈ tables_1, d.before a0 Z = true) {locs : List Loc} {cells slots : Nat} {h : Heap} {x0 pa : Addr} {i n : Int32} {k : ClassId} {P : List Int32} {s3 : Slot} (F : Fld Z h x0 "com/example/weftwork/weftwork/model/Components" "parent" "[I" (.ref pa)) (V : Arv Z h pa k .int n (P.map Value.int) (.int 0)) (hP : ∀ j : Int32, 0 ≤ j.toInt → j.toInt < n.toInt → 0 ≤ (own_g P j).toInt ∧ (own_g P j = j ∨ (own_g P j).toInt < j.toInt)) :
    ∀ (f : Nat) (r : Int32), 0 ≤ r.toInt → r.toInt < f → r.toInt < n.toInt → ∀ T : State, Stand p l e R s m args below meth c T locs cells slots → T.heap = h → (∀ T', Stand p l e R s m args below meth c T' locs cells slots → T'.heap = h → Ends p.tables e below Fz (T'.setTop (mkF m 22 #[.val (.ref x0), .val (.int i), .val (.int (own_rt P f r)), s3] []))) → Ends p.tables e below Fz (T.setTop (mkF m 2 #[.val (.ref x0), .val (.int i), .val (.int r), s3] [])) := by
  intro f
  induction f with
  | zero => intro r hr0 hrf; omega
  | succ f ih =>
    intro r hr0 hrf hrn T0 X0 e0 kt
    have hPr := hP r hr0 hrn
    refine own_aloadN X0 hx hby d6_2 rfl rfl rfl ?_
    refine own_getfield X0 hx hby hZ hown (host := "") (Or.inl (hw _ tw_10)) Via.refl e0 F d6_3 rfl (fun T1 X1 e1 => ?_)
    refine own_iloadN X1 hx hby d6_6 rfl rfl ?_
    refine own_iaload X1 hx hby hZ (own_g P r) e1 V (own_inb hr0 hrn) (own_gm P r) d6_7 rfl ?_
    refine own_iloadN X1 hx hby d6_8 rfl rfl ?_
    refine own_icmp_eq X1 hx hby d6_9 (pcY := 22) (pcN := 12) (by decide) rfl (fun (hc2 : (own_g P r) = r) => ?_) (fun (hc2 : ¬ (own_g P r) = r) => ?_)
    · -- pc 9: t
      have q : own_rt P (f + 1) r = r := by rw [own_rt, if_pos hc2]
      rw [q] at kt
      exact kt _ X1 e1
    · -- pc 9: f
      refine own_aloadN X1 hx hby d6_12 rfl rfl rfl ?_
      refine own_getfield X1 hx hby hZ hown (host := "") (Or.inl (hw _ tw_10)) Via.refl e1 F d6_13 rfl (fun T3 X3 e3 => ?_)
      refine own_iloadN X3 hx hby d6_16 rfl rfl ?_
      refine own_iaload X3 hx hby hZ (own_g P r) e3 V (own_inb hr0 hrn) (own_gm P r) d6_17 rfl ?_
      refine own_istoreN X3 hx hby d6_18 rfl #[.val (.ref x0), .val (.int i), .val (.int (own_g P r)), s3] rfl ?_
      refine own_goto X3 hx hby d6_19 (pc' := 2) (by decide) ?_
      have q : own_rt P (f + 1) r = own_rt P f (own_g P r) := by rw [own_rt, if_neg hc2]
      rw [q] at kt
      have hl : (own_g P r).toInt < r.toInt := hPr.2.resolve_left hc2
      exact ih (own_g P r) hPr.1 (by omega) (by omega) _ X3 e3 kt
set_option maxRecDepth 65536 in
set_option maxHeartbeats 40000000 in
theorem loopB {p : Program} {l : Launch} {e : Env} {R : Room} {s : State} {m : MethodId} {args : Array Value} {below : List Frame} {meth : Method} {c : Code} {Fz : Outcome → State → Prop} {Z : State} {a0 : Array Value} (hx : p.tables.exec = Jvm.exec) (hby : c.code = prog_43_method_5_code) (hml : c.maxLocals = 4) (hown : s.vm.findClass "com/example/weftwork/weftwork/model/Components" = some m.cls) (hZ : Z.Warmed39 s.vm) (hw : ∀ d ∈ tables_1, d.before a0 Z = true) {cells slots n0 : Nat} {x0 pa : Addr} {r n : Int32} {k : ClassId} {A : List (List Int32)} (HA : OwnOk n A) (ge : n0 ≤ pa) (ne : x0 ≠ pa) :
    ∀ (f : Nat) (P : List Int32) (i : Int32) (h : Heap) (locs : List Loc) (T : State) (s3 : Slot), P ∈ A → 0 ≤ i.toInt → i.toInt < f → i.toInt < n.toInt → own_rt P 4 i = r → Fld Z h x0 "com/example/weftwork/weftwork/model/Components" "parent" "[I" (.ref pa) → Arv Z h pa k .int n (P.map Value.int) (.int 0) → Fr n0 locs → Stand p l e R s m args below meth c T locs cells slots → T.heap = h → (s3 = .unset ∨ ∃ w, s3 = .val w ∧ w.category = 1) →
      (∀ (T' : State) (h' : Heap) (L' : List Loc) (i' : Int32) (s' : Slot), Stand p l e R s m args below meth c T' L' cells slots → T'.heap = h' → Fr n0 L' → Keep h h' [pa] → Arv Z h' pa k .int n ((own_cp f P i r).map Value.int) (.int 0) → Ends p.tables e below Fz (T'.setTop (mkF m 51 #[.val (.ref x0), .val (.int i'), .val (.int r), s'] []))) → Ends p.tables e below Fz (T.setTop (mkF m 22 #[.val (.ref x0), .val (.int i), .val (.int r), s3] [])) := by
  intro f
  induction f with
  | zero => intro P i h locs T0 s3 hA hi0 hif; omega
  | succ f ih =>
    intro P i h locs T0 s3 hA hi0 hif hin hrt F V hN X0 e0 hs3 kt
    have hok := HA P hA
    have hok' := hok.2 i (own_mem hi0 hin)
    refine own_aloadN X0 hx hby d6_22 rfl rfl rfl ?_
    refine own_getfield X0 hx hby hZ hown (host := "") (Or.inl (hw _ tw_10)) Via.refl e0 F d6_23 rfl (fun T4 X4 e4 => ?_)
    refine own_iloadN X4 hx hby d6_26 rfl rfl ?_
    refine own_iaload X4 hx hby hZ (own_g P i) e4 V (own_inb hi0 hin) (own_gm P i) d6_27 rfl ?_
    refine own_iloadN X4 hx hby d6_28 rfl rfl ?_
    refine own_icmp_eq X4 hx hby d6_29 (pcY := 51) (pcN := 32) (by decide) rfl (fun (hc5 : (own_g P i) = r) => ?_) (fun (hc5 : ¬ (own_g P i) = r) => ?_)
    · -- pc 29: t
      have q : own_cp (f + 1) P i r = P := by rw [own_cp, if_pos hc5]
      rw [q] at kt
      exact kt _ _ _ _ _ X4 e4 hN (Keep.refl _ _) V
    · -- pc 29: f
      refine own_aloadN X4 hx hby d6_32 rfl rfl rfl ?_
      refine own_getfield X4 hx hby hZ hown (host := "") (Or.inl (hw _ tw_10)) Via.refl e4 F d6_33 rfl (fun T6 X6 e6 => ?_)
      refine own_iloadN X6 hx hby d6_36 rfl rfl ?_
      refine own_iaload X6 hx hby hZ (own_g P i) e6 V (own_inb hi0 hin) (own_gm P i) d6_37 rfl ?_
      refine own_istoreN X6 hx hby d6_38 rfl #[.val (.ref x0), .val (.int i), .val (.int r), .val (.int (own_g P i))] (Jvm.Free.XS.store1 rfl hs3 rfl) ?_
      refine own_aloadN X6 hx hby d6_39 rfl rfl rfl ?_
      refine own_getfield X6 hx hby hZ hown (host := "") (Or.inl (hw _ tw_10)) Via.refl e6 F d6_40 rfl (fun T7 X7 e7 => ?_)
      refine own_iloadN X7 hx hby d6_43 rfl rfl ?_
      refine own_iloadN X7 hx hby d6_44 rfl rfl ?_
      refine own_iastore X7 hx hby hZ r rfl e7 V (own_inb hi0 hin) i.toNatClampNeg rfl (by rw [List.length_map, hok.1]; have q1 := own_nc hi0; have q2 := own_nc (j := n) (by omega); omega) ((P.set i.toNatClampNeg r).map Value.int) (own_sm _ _ _) rfl hN ge d6_45 rfl (fun T8 h8 L8 X8 e8 W8 V8 N8 => ?_)
      refine own_iloadN X8 hx hby d6_46 rfl rfl ?_
      refine own_istoreN X8 hx hby d6_47 rfl #[.val (.ref x0), .val (.int (own_g P i)), .val (.int r), .val (.int (own_g P i))] rfl ?_
      refine own_goto X8 hx hby d6_48 (pc' := 22) (by decide) ?_
      have q : own_cp (f + 1) P i r = own_cp f (P.set i.toNatClampNeg r) (own_g P i) r := by rw [own_cp, if_neg hc5]
      rw [q] at kt
      have hB := hok'.2.2.2.2.resolve_left (by rw [hrt]; exact hc5)
      rw [hrt] at hB
      have f9 := (F.other W8 (Or.inl ne))
      refine ih (P.set i.toNatClampNeg r) (own_g P i) _ _ _ _ hB.1 hok'.1 (by omega) (by omega) hB.2.1 f9 V8 N8 X8 e8 (Or.inr ⟨_, rfl, rfl⟩) (fun T' h' L' i' s' X' e' N' K' V' => ?_)
      exact kt T' h' L' i' s' X' e' N' ((Keep.of_wr W8).trans K' (allS (Or.inl (by simp)) all0)) V'
set_option maxRecDepth 65536 in
set_option maxHeartbeats 40000000 in
theorem rm6 (l : Launch) (Z : State) (a0 : Array Value) (hw : ∀ d ∈ tables_1, d.before a0 Z = true) (x0 : Addr) (x1 : Int32) (h0 : Heap) (n0 : Nat) {pa : Addr} {k : ClassId} {n : Int32} {P : List Int32} {A : List (List Int32)} (HA : OwnOk n A) (hA : P ∈ A) (hn4 : n.toInt ≤ 4) (ge : n0 ≤ pa) (ne : x0 ≠ pa) (F : Fld Z h0 x0 "com/example/weftwork/weftwork/model/Components" "parent" "[I" (.ref pa)) (V : Arv Z h0 pa k .int n (P.map Value.int) (.int 0)) (h1 : 0 ≤ x1.toInt) (h2 : x1.toInt < n.toInt) :
    OwnMet l Z (⟨"com/example/weftwork/weftwork/model/Components", "root", "(I)I"⟩ : MethodName) prog_43_method_5_code 4 (some .int) [] ({ frames := 0, cells := 0, slots := 0, locals := 0 } : Room) #[(.ref x0), (.int x1)] h0 (fun v h L => v = some (.int (own_rt P 4 x1)) ∧ Fr n0 L ∧ Keep h0 h [pa] ∧ Arv Z h pa k .int n ((own_p1 P x1).map Value.int) (.int 0)) := by
  refine own_body (plainFor_of_name pn_0) (fun m => ef_6 m x0 x1) ?_
  intro p e s m below meth c s₁ X0 hx hby hml hown hnm hret hlk hZ e0
  replace hown : s.vm.findClass "com/example/weftwork/weftwork/model/Components" = some m.cls := hown
  replace hml : c.maxLocals = 4 := hml
  have N0 := Fr.nil n0
  show Ends p.tables e below _ (s₁.setTop (mkF m 0 #[.val (.ref x0), .val (.int x1), .unset, .unset] []))
  refine own_iloadN X0 hx hby d6_0 rfl rfl ?_
  refine own_istoreN X0 hx hby d6_1 rfl #[.val (.ref x0), .val (.int x1), .val (.int x1), .unset] rfl ?_
  refine loopA hx hby hml hown hZ hw F V (fun j h1 h2 => ⟨((HA P hA).2 j (own_mem h1 h2)).1, ((HA P hA).2 j (own_mem h1 h2)).2.1⟩) 4 x1 h1 (by omega) h2 _ X0 e0 (fun T1 X1 e1 => ?_)
  refine loopB hx hby hml hown hZ hw HA ge ne 4 P x1 _ _ _ _ hA h1 (by omega) h2 rfl F V N0 X1 e1 (Or.inl rfl) (fun T2 h2' L2 i2 s2 X2 e2 N2 K2 V2 => ?_)
  refine own_iloadN X2 hx hby d6_51 rfl rfl ?_
  refine own_ret X2 hx hby hret hlk d6_52 (.int (own_rt P 4 x1)) rfl (Or.inl ⟨rfl, by simp, _, rfl⟩) (by decide) (by decide) ?_
  rw [e2]
  exact ⟨rfl, N2, K2, V2⟩
set_option maxRecDepth 65536 in
set_option maxHeartbeats 40000000 in
theorem rm7 (l : Launch) (Z : State) (a0 : Array Value) (hw : ∀ d ∈ tables_1, d.before a0 Z = true) (x0 : Int32) (x1 : Int32) (h0 : Heap) :
    OwnMet l Z (⟨"java/lang/Math", "max", "(II)I"⟩ : MethodName) jdk_29_method_65_code 2 (some .int) [] ({ frames := 0, cells := 0, slots := 0, locals := 0 } : Room) #[(.int x0), (.int x1)] h0 (fun v h L => v = some (.int (own_max x0 x1)) ∧ L = [] ∧ h = h0) := by
  refine own_body (Jvm.Free.JP.mathPlain rfl (by decide +kernel)) (fun m => ef_7 m x0 x1) ?_
  intro p e s m below meth c s₁ X0 hx hby hml hown hnm hret hlk hZ e0
  replace hown : s.vm.findClass "java/lang/Math" = some m.cls := hown
  replace hml : c.maxLocals = 2 := hml
  show Ends p.tables e below _ (s₁.setTop (mkF m 0 #[.val (.int x0), .val (.int x1)] []))
  refine own_iloadN X0 hx hby d7_0 rfl rfl ?_
  refine own_iloadN X0 hx hby d7_1 rfl rfl ?_
  refine own_icmp_lt X0 hx hby d7_2 (pcY := 9) (pcN := 5) (by decide) rfl (fun (hc10 : x0.toInt < x1.toInt) => ?_) (fun (hc10 : x1.toInt ≤ x0.toInt) => ?_)
  · -- pc 2: t
    refine own_iloadN X0 hx hby d7_9 rfl rfl ?_
    refine own_ret X0 hx hby hret hlk d7_10 (.int x1) rfl (Or.inl ⟨rfl, by simp, _, rfl⟩) (by decide) (by decide) ?_
    refine ⟨?_, rfl, e0⟩
    first | rw [own_max, if_pos (by omega)] | rw [own_max, if_neg (by omega)]
  · -- pc 2: f
    refine own_iloadN X0 hx hby d7_5 rfl rfl ?_
    refine own_goto X0 hx hby d7_6 (pc' := 10) (by decide) ?_
    refine own_ret X0 hx hby hret hlk d7_10 (.int x0) rfl (Or.inl ⟨rfl, by simp, _, rfl⟩) (by decide) (by decide) ?_
    refine ⟨?_, rfl, e0⟩
    first | rw [own_max, if_pos (by omega)] | rw [own_max, if_neg (by omega)]
set_option maxRecDepth 65536 in
set_option maxHeartbeats 40000000 in
theorem rm8 (l : Launch) (Z : State) (a0 : Array Value) (hw : ∀ d ∈ tables_1, d.before a0 Z = true) (x0 : Int32) (x1 : Int32) (h0 : Heap) :
    OwnMet l Z (⟨"java/lang/Math", "min", "(II)I"⟩ : MethodName) jdk_29_method_69_code 2 (some .int) [] ({ frames := 0, cells := 0, slots := 0, locals := 0 } : Room) #[(.int x0), (.int x1)] h0 (fun v h L => v = some (.int (own_min x0 x1)) ∧ L = [] ∧ h = h0) := by
  refine own_body (Jvm.Free.JP.mathPlain rfl (by decide +kernel)) (fun m => ef_8 m x0 x1) ?_
  intro p e s m below meth c s₁ X0 hx hby hml hown hnm hret hlk hZ e0
  replace hown : s.vm.findClass "java/lang/Math" = some m.cls := hown
  replace hml : c.maxLocals = 2 := hml
  show Ends p.tables e below _ (s₁.setTop (mkF m 0 #[.val (.int x0), .val (.int x1)] []))
  refine own_iloadN X0 hx hby d8_0 rfl rfl ?_
  refine own_iloadN X0 hx hby d8_1 rfl rfl ?_
  refine own_icmp_gt X0 hx hby d8_2 (pcY := 9) (pcN := 5) (by decide) rfl (fun (hc11 : x1.toInt < x0.toInt) => ?_) (fun (hc11 : x0.toInt ≤ x1.toInt) => ?_)
  · -- pc 2: t
    refine own_iloadN X0 hx hby d8_9 rfl rfl ?_
    refine own_ret X0 hx hby hret hlk d8_10 (.int x1) rfl (Or.inl ⟨rfl, by simp, _, rfl⟩) (by decide) (by decide) ?_
    refine ⟨?_, rfl, e0⟩
    first | rw [own_min, if_pos (by omega)] | rw [own_min, if_neg (by omega)]
  · -- pc 2: f
    refine own_iloadN X0 hx hby d8_5 rfl rfl ?_
    refine own_goto X0 hx hby d8_6 (pc' := 10) (by decide) ?_
    refine own_ret X0 hx hby hret hlk d8_10 (.int x0) rfl (Or.inl ⟨rfl, by simp, _, rfl⟩) (by decide) (by decide) ?_
    refine ⟨?_, rfl, e0⟩
    first | rw [own_min, if_pos (by omega)] | rw [own_min, if_neg (by omega)]
set_option maxRecDepth 65536 in
set_option maxHeartbeats 40000000 in
theorem rm3 (l : Launch) (Z : State) (a0 : Array Value) (hw : ∀ d ∈ tables_1, d.before a0 Z = true) (x0 : Addr) (h0 : Heap) {c0 : Int32} (Fc : Fld Z h0 x0 "com/example/weftwork/weftwork/model/Components" "count" "I" (.int c0)) :
    OwnMet l Z (⟨"com/example/weftwork/weftwork/model/Components", "whole", "()Z"⟩ : MethodName) prog_43_method_3_code 1 (some .boolean) [] ({ frames := 0, cells := 0, slots := 0, locals := 0 } : Room) #[(.ref x0)] h0 (fun v h L => v = some (.int (own_wh c0)) ∧ L = [] ∧ h = h0) := by
  refine own_body (plainFor_of_name pn_0) (fun m => ef_3 m x0) ?_
  intro p e s m below meth c s₁ X0 hx hby hml hown hnm hret hlk hZ e0
  replace hown : s.vm.findClass "com/example/weftwork/weftwork/model/Components" = some m.cls := hown
  replace hml : c.maxLocals = 1 := hml
  show Ends p.tables e below _ (s₁.setTop (mkF m 0 #[.val (.ref x0)] []))
  refine own_aloadN X0 hx hby d3_0 rfl rfl rfl ?_
  refine own_getfield X0 hx hby hZ hown (host := "") (Or.inl (hw _ tw_12)) Via.refl e0 Fc d3_1 rfl (fun T12 X12 e12 => ?_)
  refine own_iconst X12 hx hby d3_4 rfl (1 : Int32) rfl ?_
  refine own_icmp_gt X12 hx hby d3_5 (pcY := 12) (pcN := 8) (by decide) rfl (fun (hc13 : 1 < c0.toInt) => ?_) (fun (hc13 : c0.toInt ≤ 1) => ?_)
  · -- pc 5: t
    refine own_iconst X12 hx hby d3_12 rfl (0 : Int32) rfl ?_
    refine own_ret X12 hx hby hret hlk d3_13 (.int (0 : Int32)) rfl (Or.inl ⟨rfl, by simp, _, rfl⟩) (by decide) (by decide) ?_
    refine ⟨?_, rfl, e12⟩
    first | rw [own_wh, if_pos (by omega)] | rw [own_wh, if_neg (by omega)]
  · -- pc 5: f
    refine own_iconst X12 hx hby d3_8 rfl (1 : Int32) rfl ?_
    refine own_goto X12 hx hby d3_9 (pc' := 13) (by decide) ?_
    refine own_ret X12 hx hby hret hlk d3_13 (.int (1 : Int32)) rfl (Or.inl ⟨rfl, by simp, _, rfl⟩) (by decide) (by decide) ?_
    refine ⟨?_, rfl, e12⟩
    first | rw [own_wh, if_pos (by omega)] | rw [own_wh, if_neg (by omega)]
set_option maxRecDepth 65536 in
set_option maxHeartbeats 40000000 in
theorem rm5 (l : Launch) (Z : State) (a0 : Array Value) (hw : ∀ d ∈ tables_1, d.before a0 Z = true) (x0 : Addr) (x1 : Int32) (x2 : Int32) (h0 : Heap) (n0 : Nat) {pa : Addr} {k : ClassId} {n : Int32} {P : List Int32} {A : List (List Int32)} (HA : OwnOk n A) (hA : P ∈ A) (hn4 : n.toInt ≤ 4) (ge : n0 ≤ pa) (ne : x0 ≠ pa) (F : Fld Z h0 x0 "com/example/weftwork/weftwork/model/Components" "parent" "[I" (.ref pa)) (V : Arv Z h0 pa k .int n (P.map Value.int) (.int 0)) {c0 : Int32} (gx : n0 ≤ x0) (E : Exa Z h0 x0 "com/example/weftwork/weftwork/model/Components") (Fc : Fld Z h0 x0 "com/example/weftwork/weftwork/model/Components" "count" "I" (.int c0)) (ha : 0 ≤ x1.toInt ∧ x1.toInt < n.toInt) (hb : 0 ≤ x2.toInt ∧ x2.toInt < n.toInt) :
    OwnMet l Z (⟨"com/example/weftwork/weftwork/model/Components", "join", "(II)V"⟩ : MethodName) prog_43_method_2_code 5 none [] ({ frames := 1, cells := 0, slots := 0, locals := 18 } : Room) #[(.ref x0), (.int x1), (.int x2)] h0 (fun v h L => v = none ∧ Fr n0 L ∧ Keep h0 h [pa, x0] ∧ Fld Z h x0 "com/example/weftwork/weftwork/model/Components" "parent" "[I" (.ref pa) ∧ Fld Z h x0 "com/example/weftwork/weftwork/model/Components" "count" "I" (.int (own_jc P x1 x2 c0)) ∧ Arv Z h pa k .int n ((own_jn P x1 x2).map Value.int) (.int 0)) := by
  refine own_body (plainFor_of_name pn_0) (fun m => ef_5 m x0 x1 x2) ?_
  intro p e s m below meth c s₁ X0 hx hby hml hown hnm hret hlk hZ e0
  replace hown : s.vm.findClass "com/example/weftwork/weftwork/model/Components" = some m.cls := hown
  replace hml : c.maxLocals = 5 := hml
  have N0 := Fr.nil n0
  show Ends p.tables e below _ (s₁.setTop (mkF m 0 #[.val (.ref x0), .val (.int x1), .val (.int x2), .unset, .unset] []))
  refine own_aloadN X0 hx hby d5_0 rfl rfl rfl ?_
  refine own_iloadN X0 hx hby d5_1 rfl rfl ?_
  refine own_private X0 hx hby hZ (Ce := "com/example/weftwork/weftwork/model/Components") (a := x0) (argsL := [(.int x1)]) (rest := []) hown (hw _ tw_28) (hw _ tw_2) (hw _ tw_30) (hw _ tw_29) (hw _ tw_3) (hw _ tw_31) (by decide) (rm6 l Z a0 hw x0 x1 h0 n0 HA hA hn4 ge ne F V ha.1 ha.2) E e0 (by rw [hml]; rfl) pd_0 rfl (by decide) (W := 0) (Nat.le_refl _) (by decide) (by decide) (by decide) d5_2 rfl rfl (fun v14 T14 L14 X14 hQ14 => ?_)
  obtain ⟨rfl, N14q, K14, V14⟩ := hQ14
  have hA14 := ((HA P hA).2 x1 (own_mem ha.1 ha.2)).2.2.2.1
  have hr14 := ((HA P hA).2 x1 (own_mem ha.1 ha.2)).2.2.1
  show Ends p.tables e below _ (T14.setTop (mkF m 5 #[.val (.ref x0), .val (.int x1), .val (.int x2), .unset, .unset] [(.int (own_rt P 4 x1))]))
  refine own_istoreN X14 hx hby d5_5 rfl #[.val (.ref x0), .val (.int x1), .val (.int x2), .val (.int (own_rt P 4 x1)), .unset] rfl ?_
  refine own_aloadN X14 hx hby d5_6 rfl rfl rfl ?_
  refine own_iloadN X14 hx hby d5_7 rfl rfl ?_
  have f16 := (F.keep K14 (ninS ne nin0))
  have f17 := (E.keep K14)
  refine own_private X14 hx hby hZ (Ce := "com/example/weftwork/weftwork/model/Components") (a := x0) (argsL := [(.int x2)]) (rest := []) hown (hw _ tw_28) (hw _ tw_2) (hw _ tw_30) (hw _ tw_29) (hw _ tw_3) (hw _ tw_31) (by decide) (rm6 l Z a0 hw x0 x2 T14.heap n0 HA hA14 hn4 ge ne f16 V14 hb.1 hb.2) f17 rfl (by rw [hml]; rfl) pd_0 rfl (by decide) (W := 0) (Nat.le_refl _) (by decide) (by decide) (by decide) d5_8 rfl rfl (fun v15 T15 L15 X15 hQ15 => ?_)
  obtain ⟨rfl, N15q, K15, V15⟩ := hQ15
  have hA15 := ((HA (own_p1 P x1) hA14).2 x2 (own_mem hb.1 hb.2)).2.2.2.1
  have hr15 := ((HA (own_p1 P x1) hA14).2 x2 (own_mem hb.1 hb.2)).2.2.1
  show Ends p.tables e below _ (T15.setTop (mkF m 11 #[.val (.ref x0), .val (.int x1), .val (.int x2), .val (.int (own_rt P 4 x1)), .unset] [(.int (own_rt (own_p1 P x1) 4 x2))]))
  refine own_istore X15 hx hby d5_11 rfl #[.val (.ref x0), .val (.int x1), .val (.int x2), .val (.int (own_rt P 4 x1)), .val (.int (own_rt (own_p1 P x1) 4 x2))] rfl ?_
  refine own_iloadN X15 hx hby d5_13 rfl rfl ?_
  refine own_iload X15 hx hby d5_14 rfl rfl ?_
  refine own_icmp_eq X15 hx hby d5_16 (pcY := 46) (pcN := 19) (by decide) rfl (fun (hc18 : (own_rt P 4 x1) = (own_rt (own_p1 P x1) 4 x2)) => ?_) (fun (hc18 : ¬ (own_rt P 4 x1) = (own_rt (own_p1 P x1) 4 x2)) => ?_)
  · -- pc 16: t
    refine own_retV X15 hx hby hret hlk d5_46 (by decide) (by decide) ?_
    have f19 := ((Fc.keep K14 (ninS ne nin0)).keep K15 (ninS ne nin0))
    have f20 := (((Keep.refl h0 [pa, x0]).trans K14 (allS (Or.inl (by simp)) all0)).trans K15 (allS (Or.inl (by simp)) all0))
    have f21 := (f16.keep K15 (ninS ne nin0))
    refine ⟨rfl, (Fr.app (Fr.app N0 N14q) N15q), f20, f21, ?_, ?_⟩
    · rw [own_jc, if_pos hc18]; exact f19
    · rw [own_jn, if_pos hc18]; exact V15
  · -- pc 16: f
    refine own_aloadN X15 hx hby d5_19 rfl rfl rfl ?_
    have f22 := (f16.keep K15 (ninS ne nin0))
    refine own_getfield X15 hx hby hZ hown (host := "") (Or.inl (hw _ tw_10)) Via.refl rfl f22 d5_20 rfl (fun T23 X23 e23 => ?_)
    refine own_iloadN X23 hx hby d5_23 rfl rfl ?_
    refine own_iload X23 hx hby d5_24 rfl rfl ?_
    refine own_static X23 hx hby hZ (argsL := [(.int (own_rt P 4 x1)), (.int (own_rt (own_p1 P x1) 4 x2))]) (rest := [(.ref pa)]) hown (hw _ tw_32) (hw _ tw_33) (hw _ tw_34) (hw _ tw_35) (by decide) (rm7 l Z a0 hw (own_rt P 4 x1) (own_rt (own_p1 P x1) 4 x2) T15.heap) e23 (by rw [hml]; rfl) pd_1 rfl (by decide) (W := 1) (Nat.le_refl _) (by decide) (by decide) (by decide) d5_26 rfl rfl (fun v24 T24 L24 X24 hQ24 => ?_)
    obtain ⟨rfl, rfl, e24⟩ := hQ24
    show Ends p.tables e below _ (T24.setTop (mkF m 29 #[.val (.ref x0), .val (.int x1), .val (.int x2), .val (.int (own_rt P 4 x1)), .val (.int (own_rt (own_p1 P x1) 4 x2))] [(.int (own_max (own_rt P 4 x1) (own_rt (own_p1 P x1) 4 x2))), (.ref pa)]))
    refine own_iloadN X24 hx hby d5_29 rfl rfl ?_
    refine own_iload X24 hx hby d5_30 rfl rfl ?_
    refine own_static X24 hx hby hZ (argsL := [(.int (own_rt P 4 x1)), (.int (own_rt (own_p1 P x1) 4 x2))]) (rest := [(.int (own_max (own_rt P 4 x1) (own_rt (own_p1 P x1) 4 x2))), (.ref pa)]) hown (hw _ tw_36) (hw _ tw_37) (hw _ tw_34) (hw _ tw_38) (by decide) (rm8 l Z a0 hw (own_rt P 4 x1) (own_rt (own_p1 P x1) 4 x2) T15.heap) e24 (by rw [hml]; rfl) pd_1 rfl (by decide) (W := 2) (Nat.le_refl _) (by decide) (by decide) (by decide) d5_32 rfl rfl (fun v25 T25 L25 X25 hQ25 => ?_)
    obtain ⟨rfl, rfl, e25⟩ := hQ25
    show Ends p.tables e below _ (T25.setTop (mkF m 35 #[.val (.ref x0), .val (.int x1), .val (.int x2), .val (.int (own_rt P 4 x1)), .val (.int (own_rt (own_p1 P x1) 4 x2))] [(.int (own_min (own_rt P 4 x1) (own_rt (own_p1 P x1) 4 x2))), (.int (own_max (own_rt P 4 x1) (own_rt (own_p1 P x1) 4 x2))), (.ref pa)]))
    refine own_iastore X25 hx hby hZ (own_min (own_rt P 4 x1) (own_rt (own_p1 P x1) 4 x2)) rfl e25 V15 (own_inb (own_maxin hr14 hr15).1 (own_maxin hr14 hr15).2) (own_max (own_rt P 4 x1) (own_rt (own_p1 P x1) 4 x2)).toNatClampNeg rfl (by rw [List.length_map, (HA _ hA15).1]; have q0 := (own_maxin hr14 hr15); have q1 := own_nc q0.1; have q2 := own_nc (j := n) (by omega); omega) (((own_p1 (own_p1 P x1) x2).set (own_max (own_rt P 4 x1) (own_rt (own_p1 P x1) 4 x2)).toNatClampNeg (own_min (own_rt P 4 x1) (own_rt (own_p1 P x1) 4 x2))).map Value.int) (own_sm _ _ _) rfl (Fr.app (Fr.app (Fr.app (Fr.app N0 N14q) N15q) (Fr.nil _)) (Fr.nil _)) ge d5_35 rfl (fun T26 h26 L26 X26 e26 W26 V26 N26 => ?_)
    refine own_aloadN X26 hx hby d5_36 rfl rfl rfl ?_
    refine own_dup X26 hx hby d5_37 rfl rfl ?_
    have f27 := (((Fc.keep K14 (ninS ne nin0)).keep K15 (ninS ne nin0)).other W26 (Or.inl ne))
    refine own_getfield X26 hx hby hZ hown (host := "") (Or.inl (hw _ tw_12)) Via.refl e26 f27 d5_38 rfl (fun T28 X28 e28 => ?_)
    refine own_iconst X28 hx hby d5_41 rfl (1 : Int32) rfl ?_
    refine own_isub X28 hx hby d5_42 rfl ?_
    have f29 := ((f17.keep K15).wr W26)
    refine own_putfield X28 hx hby hZ hown (host := "") (Or.inl (hw _ tw_12)) Via.refl e28 f27 f29 (Or.inl (hw _ tw_13)) (hw _ tw_2) (ty := .int) (by decide) rfl rfl N26 gx  d5_43 rfl (fun T30 h30 L30 X30 e30 W30 N30 => ?_)
    have F30 := f27.same W30
    refine own_retV X30 hx hby hret hlk d5_46 (by decide) (by decide) ?_
    have f31 := (V26.other W30 (Ne.symm ne))
    have f32 := (((((Keep.refl h0 [pa, x0]).trans K14 (allS (Or.inl (by simp)) all0)).trans K15 (allS (Or.inl (by simp)) all0)).wr W26 (Or.inl (by simp))).wr W30 (Or.inl (by simp)))
    have f33 := ((f22.other W26 (Or.inl ne)).other W30 (Or.inr (slot_ne (Or.inr (hw _ tw_11)) (Or.inl (hw _ tw_13)) (by decide) (t := (.array .int)) (t' := .int) (by decide) (by decide))))
    rw [e30]
    refine ⟨rfl, N30, f32, f33, ?_, ?_⟩
    · rw [own_jc, if_neg hc18]; exact F30
    · rw [own_jn, if_neg hc18]; exact f31
set_option maxRecDepth 65536 in
set_option maxHeartbeats 40000000 in
theorem rm4 (l : Launch) (Z : State) (a0 : Array Value) (hw : ∀ d ∈ tables_1, d.before a0 Z = true) (x0 : Addr) (x1 : Addr) (x2 : Int32) (x3 : Int32) (h0 : Heap) (n0 : Nat) {pa : Addr} {k : ClassId} {P : List Int32} {A : List (List Int32)} (HA : OwnOk x3 A) (hA : P ∈ A) (hn4 : x3.toInt ≤ 4) (ge : n0 ≤ pa) (ne : x0 ≠ pa) (F : Fld Z h0 x0 "com/example/weftwork/weftwork/model/Components" "parent" "[I" (.ref pa)) (V : Arv Z h0 pa k .int x3 (P.map Value.int) (.int 0)) {c0 : Int32} (gx : n0 ≤ x0) (E : Exa Z h0 x0 "com/example/weftwork/weftwork/model/Components") (Fc : Fld Z h0 x0 "com/example/weftwork/weftwork/model/Components" "count" "I" (.int c0)) {kl : ClassId} {l0 l1 l2 l3 : Int32} (hn1 : 0 < x3.toInt) (gl : n0 ≤ x1) (nl : x0 ≠ x1) (np : pa ≠ x1) (VL : Arv Z h0 x1 kl .int (4 : Int32) [(.int l0), (.int l1), (.int l2), (.int l3)] (.int 0)) :
    OwnMet l Z (⟨"com/example/weftwork/weftwork/model/ComponentsWholePinLaw", "step", "(Lcom/example/weftwork/weftwork/model/Components;[III)V"⟩ : MethodName) method_3_code 8 none [] ({ frames := 2, cells := 0, slots := 0, locals := 34 } : Room) #[(.ref x0), (.ref x1), (.int x2), (.int x3)] h0 (fun v h L => v = none ∧ Fr n0 L ∧ Keep h0 h [pa, x0, x1] ∧ Fld Z h x0 "com/example/weftwork/weftwork/model/Components" "parent" "[I" (.ref pa) ∧ Fld Z h x0 "com/example/weftwork/weftwork/model/Components" "count" "I" (.int (own_jc P ((x2 &&& (255 : Int32)) % x3) ((((x2.toUInt32 >>> ((8 : Int32) &&& 31).toUInt32).toInt32) &&& (255 : Int32)) % x3) c0)) ∧ Arv Z h pa k .int x3 ((own_jn P ((x2 &&& (255 : Int32)) % x3) ((((x2.toUInt32 >>> ((8 : Int32) &&& 31).toUInt32).toInt32) &&& (255 : Int32)) % x3)).map Value.int) (.int 0) ∧ Arv Z h x1 kl .int (4 : Int32) ((own_rl [l0, l1, l2, l3] (own_g [l0, l1, l2, l3] ((x2 &&& (255 : Int32)) % x3)) (own_g [l0, l1, l2, l3] ((((x2.toUInt32 >>> ((8 : Int32) &&& 31).toUInt32).toInt32) &&& (255 : Int32)) % x3))).map Value.int) (.int 0)) := by
  refine own_body (plainFor_of_name pn_1) (fun m => ef_4 m x0 x1 x2 x3) ?_
  intro p e s m below meth c s₁ X0 hx hby hml hown hnm hret hlk hZ e0
  replace hown : s.vm.findClass "com/example/weftwork/weftwork/model/ComponentsWholePinLaw" = some m.cls := hown
  replace hml : c.maxLocals = 8 := hml
  have N0 := Fr.nil n0
  show Ends p.tables e below _ (s₁.setTop (mkF m 0 #[.val (.ref x0), .val (.ref x1), .val (.int x2), .val (.int x3), .unset, .unset, .unset, .unset] []))
  have ha := own_rem x2 x3 (by omega)
  have hb := own_rem (x2.toUInt32 >>> ((8 : Int32) &&& 31).toUInt32).toInt32 x3 (by omega)
  refine own_iloadN X0 hx hby d4_0 rfl rfl ?_
  refine own_sipush X0 hx hby d4_1 rfl (255 : Int32) rfl ?_
  refine own_iand X0 hx hby d4_4 rfl ?_
  refine own_iloadN X0 hx hby d4_5 rfl rfl ?_
  refine own_irem X0 hx hby d4_6 rfl (fun q => by rw [q] at hn1; exact absurd hn1 (by decide)) ?_
  refine own_istore X0 hx hby d4_7 rfl #[.val (.ref x0), .val (.ref x1), .val (.int x2), .val (.int x3), .val (.int ((x2 &&& (255 : Int32)) % x3)), .unset, .unset, .unset] rfl ?_
  refine own_iloadN X0 hx hby d4_9 rfl rfl ?_
  refine own_bipush X0 hx hby d4_10 rfl (8 : Int32) rfl ?_
  refine own_iushr X0 hx hby d4_12 rfl ?_
  refine own_sipush X0 hx hby d4_13 rfl (255 : Int32) rfl ?_
  refine own_iand X0 hx hby d4_16 rfl ?_
  refine own_iloadN X0 hx hby d4_17 rfl rfl ?_
  refine own_irem X0 hx hby d4_18 rfl (fun q => by rw [q] at hn1; exact absurd hn1 (by decide)) ?_
  refine own_istore X0 hx hby d4_19 rfl #[.val (.ref x0), .val (.ref x1), .val (.int x2), .val (.int x3), .val (.int ((x2 &&& (255 : Int32)) % x3)), .val (.int ((((x2.toUInt32 >>> ((8 : Int32) &&& 31).toUInt32).toInt32) &&& (255 : Int32)) % x3)), .unset, .unset] rfl ?_
  refine own_aloadN X0 hx hby d4_21 rfl rfl rfl ?_
  refine own_iload X0 hx hby d4_22 rfl rfl ?_
  refine own_iload X0 hx hby d4_24 rfl rfl ?_
  refine own_virtual X0 hx hby hZ (Cn := "com/example/weftwork/weftwork/model/Components") (a := x0) (argsL := [(.int ((x2 &&& (255 : Int32)) % x3)), (.int ((((x2.toUInt32 >>> ((8 : Int32) &&& 31).toUInt32).toInt32) &&& (255 : Int32)) % x3))]) (rest := []) hown (hw _ tw_23) (hw _ tw_24) (hw _ tw_26) (hw _ tw_25) (hw _ tw_3) (hw _ tw_27) (by decide) (rm5 l Z a0 hw x0 ((x2 &&& (255 : Int32)) % x3) ((((x2.toUInt32 >>> ((8 : Int32) &&& 31).toUInt32).toInt32) &&& (255 : Int32)) % x3) h0 n0 HA hA hn4 ge ne F V gx E Fc ha hb) E e0 (by rw [hml]; rfl) pd_2 rfl (by decide) (W := 0) (Nat.le_refl _) (by decide) (by decide) (by decide) d4_26 rfl rfl (fun v34 T34 L34 X34 hQ34 => ?_)
  obtain ⟨rfl, N34q, K34, Fp34, Fn34, V34⟩ := hQ34
  show Ends p.tables e below _ (T34.setTop (mkF m 29 #[.val (.ref x0), .val (.ref x1), .val (.int x2), .val (.int x3), .val (.int ((x2 &&& (255 : Int32)) % x3)), .val (.int ((((x2.toUInt32 >>> ((8 : Int32) &&& 31).toUInt32).toInt32) &&& (255 : Int32)) % x3)), .unset, .unset] []))
  refine own_aloadN X34 hx hby d4_29 rfl rfl rfl ?_
  refine own_iload X34 hx hby d4_30 rfl rfl ?_
  have f35 := (VL.keep K34 (ninS (Ne.symm np) (ninS (Ne.symm nl) nin0)))
  refine own_iaload X34 hx hby hZ (own_g [l0, l1, l2, l3] ((x2 &&& (255 : Int32)) % x3)) rfl f35 (own_inb ha.1 (Int.lt_of_lt_of_le ha.2 hn4)) (own_gm [l0, l1, l2, l3] ((x2 &&& (255 : Int32)) % x3)) d4_32 rfl ?_
  refine own_istore X34 hx hby d4_33 rfl #[.val (.ref x0), .val (.ref x1), .val (.int x2), .val (.int x3), .val (.int ((x2 &&& (255 : Int32)) % x3)), .val (.int ((((x2.toUInt32 >>> ((8 : Int32) &&& 31).toUInt32).toInt32) &&& (255 : Int32)) % x3)), .val (.int (own_g [l0, l1, l2, l3] ((x2 &&& (255 : Int32)) % x3))), .unset] rfl ?_
  refine own_aloadN X34 hx hby d4_35 rfl rfl rfl ?_
  refine own_iload X34 hx hby d4_36 rfl rfl ?_
  refine own_iaload X34 hx hby hZ (own_g [l0, l1, l2, l3] ((((x2.toUInt32 >>> ((8 : Int32) &&& 31).toUInt32).toInt32) &&& (255 : Int32)) % x3)) rfl f35 (own_inb hb.1 (Int.lt_of_lt_of_le hb.2 hn4)) (own_gm [l0, l1, l2, l3] ((((x2.toUInt32 >>> ((8 : Int32) &&& 31).toUInt32).toInt32) &&& (255 : Int32)) % x3)) d4_38 rfl ?_
  refine own_istore X34 hx hby d4_39 rfl #[.val (.ref x0), .val (.ref x1), .val (.int x2), .val (.int x3), .val (.int ((x2 &&& (255 : Int32)) % x3)), .val (.int ((((x2.toUInt32 >>> ((8 : Int32) &&& 31).toUInt32).toInt32) &&& (255 : Int32)) % x3)), .val (.int (own_g [l0, l1, l2, l3] ((x2 &&& (255 : Int32)) % x3))), .val (.int (own_g [l0, l1, l2, l3] ((((x2.toUInt32 >>> ((8 : Int32) &&& 31).toUInt32).toInt32) &&& (255 : Int32)) % x3)))] rfl ?_
  refine own_iload X34 hx hby d4_41 rfl rfl ?_
  refine own_iload X34 hx hby d4_43 rfl rfl ?_
  refine own_icmp_eq X34 hx hby d4_45 (pcY := 100) (pcN := 48) (by decide) rfl (fun (hc36 : (own_g [l0, l1, l2, l3] ((x2 &&& (255 : Int32)) % x3)) = (own_g [l0, l1, l2, l3] ((((x2.toUInt32 >>> ((8 : Int32) &&& 31).toUInt32).toInt32) &&& (255 : Int32)) % x3))) => ?_) (fun (hc36 : ¬ (own_g [l0, l1, l2, l3] ((x2 &&& (255 : Int32)) % x3)) = (own_g [l0, l1, l2, l3] ((((x2.toUInt32 >>> ((8 : Int32) &&& 31).toUInt32).toInt32) &&& (255 : Int32)) % x3))) => ?_)
  · -- pc 45: t
    refine own_retV X34 hx hby hret hlk d4_100 (by decide) (by decide) ?_
    have f37 := ((Keep.refl h0 [pa, x0, x1]).trans K34 (allS (Or.inl (by simp)) (allS (Or.inl (by simp)) all0)))
    refine ⟨rfl, (Fr.app N0 N34q), f37, Fp34, Fn34, V34, ?_⟩
    have q : own_rl [l0, l1, l2, l3] (own_g [l0, l1, l2, l3] ((x2 &&& (255 : Int32)) % x3)) (own_g [l0, l1, l2, l3] ((((x2.toUInt32 >>> ((8 : Int32) &&& 31).toUInt32).toInt32) &&& (255 : Int32)) % x3)) = [l0, l1, l2, l3] := by
      rw [own_rl, if_pos hc36]
    rw [q]; exact f35
  · -- pc 45: f
    refine own_aloadN X34 hx hby d4_48 rfl rfl rfl ?_
    refine own_iconst X34 hx hby d4_49 rfl (0 : Int32) rfl ?_
    refine own_iaload X34 hx hby hZ l0 rfl f35 (by decide) rfl d4_50 rfl ?_
    refine own_iload X34 hx hby d4_51 rfl rfl ?_
    refine own_icmp_ne X34 hx hby d4_53 (pcY := 61) (pcN := 56) (by decide) rfl (fun (hc38 : ¬ l0 = (own_g [l0, l1, l2, l3] ((((x2.toUInt32 >>> ((8 : Int32) &&& 31).toUInt32).toInt32) &&& (255 : Int32)) % x3))) => ?_) (fun (hc38 : l0 = (own_g [l0, l1, l2, l3] ((((x2.toUInt32 >>> ((8 : Int32) &&& 31).toUInt32).toInt32) &&& (255 : Int32)) % x3))) => ?_)
    · -- pc 53: t
      refine own_aloadN X34 hx hby d4_61 rfl rfl rfl ?_
      refine own_iconst X34 hx hby d4_62 rfl (1 : Int32) rfl ?_
      refine own_iaload X34 hx hby hZ l1 rfl f35 (by decide) rfl d4_63 rfl ?_
      refine own_iload X34 hx hby d4_64 rfl rfl ?_
      refine own_icmp_ne X34 hx hby d4_66 (pcY := 74) (pcN := 69) (by decide) rfl (fun (hc39 : ¬ l1 = (own_g [l0, l1, l2, l3] ((((x2.toUInt32 >>> ((8 : Int32) &&& 31).toUInt32).toInt32) &&& (255 : Int32)) % x3))) => ?_) (fun (hc39 : l1 = (own_g [l0, l1, l2, l3] ((((x2.toUInt32 >>> ((8 : Int32) &&& 31).toUInt32).toInt32) &&& (255 : Int32)) % x3))) => ?_)
      · -- pc 66: t
        refine own_aloadN X34 hx hby d4_74 rfl rfl rfl ?_
        refine own_iconst X34 hx hby d4_75 rfl (2 : Int32) rfl ?_
        refine own_iaload X34 hx hby hZ l2 rfl f35 (by decide) rfl d4_76 rfl ?_
        refine own_iload X34 hx hby d4_77 rfl rfl ?_
        refine own_icmp_ne X34 hx hby d4_79 (pcY := 87) (pcN := 82) (by decide) rfl (fun (hc40 : ¬ l2 = (own_g [l0, l1, l2, l3] ((((x2.toUInt32 >>> ((8 : Int32) &&& 31).toUInt32).toInt32) &&& (255 : Int32)) % x3))) => ?_) (fun (hc40 : l2 = (own_g [l0, l1, l2, l3] ((((x2.toUInt32 >>> ((8 : Int32) &&& 31).toUInt32).toInt32) &&& (255 : Int32)) % x3))) => ?_)
        · -- pc 79: t
          refine own_aloadN X34 hx hby d4_87 rfl rfl rfl ?_
          refine own_iconst X34 hx hby d4_88 rfl (3 : Int32) rfl ?_
          refine own_iaload X34 hx hby hZ l3 rfl f35 (by decide) rfl d4_89 rfl ?_
          refine own_iload X34 hx hby d4_90 rfl rfl ?_
          refine own_icmp_ne X34 hx hby d4_92 (pcY := 100) (pcN := 95) (by decide) rfl (fun (hc41 : ¬ l3 = (own_g [l0, l1, l2, l3] ((((x2.toUInt32 >>> ((8 : Int32) &&& 31).toUInt32).toInt32) &&& (255 : Int32)) % x3))) => ?_) (fun (hc41 : l3 = (own_g [l0, l1, l2, l3] ((((x2.toUInt32 >>> ((8 : Int32) &&& 31).toUInt32).toInt32) &&& (255 : Int32)) % x3))) => ?_)
          · -- pc 92: t
            refine own_retV X34 hx hby hret hlk d4_100 (by decide) (by decide) ?_
            have f42 := ((Keep.refl h0 [pa, x0, x1]).trans K34 (allS (Or.inl (by simp)) (allS (Or.inl (by simp)) all0)))
            refine ⟨rfl, (Fr.app N0 N34q), f42, Fp34, Fn34, V34, ?_⟩
            have q : own_rl [l0, l1, l2, l3] (own_g [l0, l1, l2, l3] ((x2 &&& (255 : Int32)) % x3)) (own_g [l0, l1, l2, l3] ((((x2.toUInt32 >>> ((8 : Int32) &&& 31).toUInt32).toInt32) &&& (255 : Int32)) % x3)) = [l0, l1, l2, l3] := by
              rw [own_rl, if_neg hc36]
              simp only [List.map_cons, List.map_nil]
              rw [if_neg hc38, if_neg hc39, if_neg hc40, if_neg hc41]
            rw [q]; exact f35
          · -- pc 92: f
            refine own_aloadN X34 hx hby d4_95 rfl rfl rfl ?_
            refine own_iconst X34 hx hby d4_96 rfl (3 : Int32) rfl ?_
            refine own_iload X34 hx hby d4_97 rfl rfl ?_
            refine own_iastore X34 hx hby hZ (own_g [l0, l1, l2, l3] ((x2 &&& (255 : Int32)) % x3)) rfl rfl f35 (by decide) 3 rfl (show 3 < 4 by decide) [(.int l0), (.int l1), (.int l2), (.int (own_g [l0, l1, l2, l3] ((x2 &&& (255 : Int32)) % x3)))] rfl rfl (Fr.app N0 N34q) gl d4_99 rfl (fun T43 h43 L43 X43 e43 W43 V43 N43 => ?_)
            refine own_retV X43 hx hby hret hlk d4_100 (by decide) (by decide) ?_
            have f44 := (((Keep.refl h0 [pa, x0, x1]).trans K34 (allS (Or.inl (by simp)) (allS (Or.inl (by simp)) all0))).wr W43 (Or.inl (by simp)))
            have f45 := (Fp34.other W43 (Or.inl nl))
            have f46 := (Fn34.other W43 (Or.inl nl))
            have f47 := (V34.other W43 np)
            rw [e43]
            refine ⟨rfl, N43, f44, f45, f46, f47, ?_⟩
            have q : own_rl [l0, l1, l2, l3] (own_g [l0, l1, l2, l3] ((x2 &&& (255 : Int32)) % x3)) (own_g [l0, l1, l2, l3] ((((x2.toUInt32 >>> ((8 : Int32) &&& 31).toUInt32).toInt32) &&& (255 : Int32)) % x3)) = [l0, l1, l2, (own_g [l0, l1, l2, l3] ((x2 &&& (255 : Int32)) % x3))] := by
              rw [own_rl, if_neg hc36]
              simp only [List.map_cons, List.map_nil]
              rw [if_neg hc38, if_neg hc39, if_neg hc40, if_pos hc41]
            rw [q]; exact V43
        · -- pc 79: f
          refine own_aloadN X34 hx hby d4_82 rfl rfl rfl ?_
          refine own_iconst X34 hx hby d4_83 rfl (2 : Int32) rfl ?_
          refine own_iload X34 hx hby d4_84 rfl rfl ?_
          refine own_iastore X34 hx hby hZ (own_g [l0, l1, l2, l3] ((x2 &&& (255 : Int32)) % x3)) rfl rfl f35 (by decide) 2 rfl (show 2 < 4 by decide) [(.int l0), (.int l1), (.int (own_g [l0, l1, l2, l3] ((x2 &&& (255 : Int32)) % x3))), (.int l3)] rfl rfl (Fr.app N0 N34q) gl d4_86 rfl (fun T48 h48 L48 X48 e48 W48 V48 N48 => ?_)
          refine own_aloadN X48 hx hby d4_87 rfl rfl rfl ?_
          refine own_iconst X48 hx hby d4_88 rfl (3 : Int32) rfl ?_
          refine own_iaload X48 hx hby hZ l3 e48 V48 (by decide) rfl d4_89 rfl ?_
          refine own_iload X48 hx hby d4_90 rfl rfl ?_
          refine own_icmp_ne X48 hx hby d4_92 (pcY := 100) (pcN := 95) (by decide) rfl (fun (hc49 : ¬ l3 = (own_g [l0, l1, l2, l3] ((((x2.toUInt32 >>> ((8 : Int32) &&& 31).toUInt32).toInt32) &&& (255 : Int32)) % x3))) => ?_) (fun (hc49 : l3 = (own_g [l0, l1, l2, l3] ((((x2.toUInt32 >>> ((8 : Int32) &&& 31).toUInt32).toInt32) &&& (255 : Int32)) % x3))) => ?_)
          · -- pc 92: t
            refine own_retV X48 hx hby hret hlk d4_100 (by decide) (by decide) ?_
            have f50 := (((Keep.refl h0 [pa, x0, x1]).trans K34 (allS (Or.inl (by simp)) (allS (Or.inl (by simp)) all0))).wr W48 (Or.inl (by simp)))
            have f51 := (Fp34.other W48 (Or.inl nl))
            have f52 := (Fn34.other W48 (Or.inl nl))
            have f53 := (V34.other W48 np)
            rw [e48]
            refine ⟨rfl, N48, f50, f51, f52, f53, ?_⟩
            have q : own_rl [l0, l1, l2, l3] (own_g [l0, l1, l2, l3] ((x2 &&& (255 : Int32)) % x3)) (own_g [l0, l1, l2, l3] ((((x2.toUInt32 >>> ((8 : Int32) &&& 31).toUInt32).toInt32) &&& (255 : Int32)) % x3)) = [l0, l1, (own_g [l0, l1, l2, l3] ((x2 &&& (255 : Int32)) % x3)), l3] := by
              rw [own_rl, if_neg hc36]
              simp only [List.map_cons, List.map_nil]
              rw [if_neg hc38, if_neg hc39, if_pos hc40, if_neg hc49]
            rw [q]; exact V48
          · -- pc 92: f
            refine own_aloadN X48 hx hby d4_95 rfl rfl rfl ?_
            refine own_iconst X48 hx hby d4_96 rfl (3 : Int32) rfl ?_
            refine own_iload X48 hx hby d4_97 rfl rfl ?_
            refine own_iastore X48 hx hby hZ (own_g [l0, l1, l2, l3] ((x2 &&& (255 : Int32)) % x3)) rfl e48 V48 (by decide) 3 rfl (show 3 < 4 by decide) [(.int l0), (.int l1), (.int (own_g [l0, l1, l2, l3] ((x2 &&& (255 : Int32)) % x3))), (.int (own_g [l0, l1, l2, l3] ((x2 &&& (255 : Int32)) % x3)))] rfl rfl N48 gl d4_99 rfl (fun T54 h54 L54 X54 e54 W54 V54 N54 => ?_)
            refine own_retV X54 hx hby hret hlk d4_100 (by decide) (by decide) ?_
            have f55 := ((((Keep.refl h0 [pa, x0, x1]).trans K34 (allS (Or.inl (by simp)) (allS (Or.inl (by simp)) all0))).wr W48 (Or.inl (by simp))).wr W54 (Or.inl (by simp)))
            have f56 := ((Fp34.other W48 (Or.inl nl)).other W54 (Or.inl nl))
            have f57 := ((Fn34.other W48 (Or.inl nl)).other W54 (Or.inl nl))
            have f58 := ((V34.other W48 np).other W54 np)
            rw [e54]
            refine ⟨rfl, N54, f55, f56, f57, f58, ?_⟩
            have q : own_rl [l0, l1, l2, l3] (own_g [l0, l1, l2, l3] ((x2 &&& (255 : Int32)) % x3)) (own_g [l0, l1, l2, l3] ((((x2.toUInt32 >>> ((8 : Int32) &&& 31).toUInt32).toInt32) &&& (255 : Int32)) % x3)) = [l0, l1, (own_g [l0, l1, l2, l3] ((x2 &&& (255 : Int32)) % x3)), (own_g [l0, l1, l2, l3] ((x2 &&& (255 : Int32)) % x3))] := by
              rw [own_rl, if_neg hc36]
              simp only [List.map_cons, List.map_nil]
              rw [if_neg hc38, if_neg hc39, if_pos hc40, if_pos hc49]
            rw [q]; exact V54
      · -- pc 66: f
        refine own_aloadN X34 hx hby d4_69 rfl rfl rfl ?_
        refine own_iconst X34 hx hby d4_70 rfl (1 : Int32) rfl ?_
        refine own_iload X34 hx hby d4_71 rfl rfl ?_
        refine own_iastore X34 hx hby hZ (own_g [l0, l1, l2, l3] ((x2 &&& (255 : Int32)) % x3)) rfl rfl f35 (by decide) 1 rfl (show 1 < 4 by decide) [(.int l0), (.int (own_g [l0, l1, l2, l3] ((x2 &&& (255 : Int32)) % x3))), (.int l2), (.int l3)] rfl rfl (Fr.app N0 N34q) gl d4_73 rfl (fun T59 h59 L59 X59 e59 W59 V59 N59 => ?_)
        refine own_aloadN X59 hx hby d4_74 rfl rfl rfl ?_
        refine own_iconst X59 hx hby d4_75 rfl (2 : Int32) rfl ?_
        refine own_iaload X59 hx hby hZ l2 e59 V59 (by decide) rfl d4_76 rfl ?_
        refine own_iload X59 hx hby d4_77 rfl rfl ?_
        refine own_icmp_ne X59 hx hby d4_79 (pcY := 87) (pcN := 82) (by decide) rfl (fun (hc60 : ¬ l2 = (own_g [l0, l1, l2, l3] ((((x2.toUInt32 >>> ((8 : Int32) &&& 31).toUInt32).toInt32) &&& (255 : Int32)) % x3))) => ?_) (fun (hc60 : l2 = (own_g [l0, l1, l2, l3] ((((x2.toUInt32 >>> ((8 : Int32) &&& 31).toUInt32).toInt32) &&& (255 : Int32)) % x3))) => ?_)
        · -- pc 79: t
          refine own_aloadN X59 hx hby d4_87 rfl rfl rfl ?_
          refine own_iconst X59 hx hby d4_88 rfl (3 : Int32) rfl ?_
          refine own_iaload X59 hx hby hZ l3 e59 V59 (by decide) rfl d4_89 rfl ?_
          refine own_iload X59 hx hby d4_90 rfl rfl ?_
          refine own_icmp_ne X59 hx hby d4_92 (pcY := 100) (pcN := 95) (by decide) rfl (fun (hc61 : ¬ l3 = (own_g [l0, l1, l2, l3] ((((x2.toUInt32 >>> ((8 : Int32) &&& 31).toUInt32).toInt32) &&& (255 : Int32)) % x3))) => ?_) (fun (hc61 : l3 = (own_g [l0, l1, l2, l3] ((((x2.toUInt32 >>> ((8 : Int32) &&& 31).toUInt32).toInt32) &&& (255 : Int32)) % x3))) => ?_)
          · -- pc 92: t
            refine own_retV X59 hx hby hret hlk d4_100 (by decide) (by decide) ?_
            have f62 := (((Keep.refl h0 [pa, x0, x1]).trans K34 (allS (Or.inl (by simp)) (allS (Or.inl (by simp)) all0))).wr W59 (Or.inl (by simp)))
            have f63 := (Fp34.other W59 (Or.inl nl))
            have f64 := (Fn34.other W59 (Or.inl nl))
            have f65 := (V34.other W59 np)
            rw [e59]
            refine ⟨rfl, N59, f62, f63, f64, f65, ?_⟩
            have q : own_rl [l0, l1, l2, l3] (own_g [l0, l1, l2, l3] ((x2 &&& (255 : Int32)) % x3)) (own_g [l0, l1, l2, l3] ((((x2.toUInt32 >>> ((8 : Int32) &&& 31).toUInt32).toInt32) &&& (255 : Int32)) % x3)) = [l0, (own_g [l0, l1, l2, l3] ((x2 &&& (255 : Int32)) % x3)), l2, l3] := by
              rw [own_rl, if_neg hc36]
              simp only [List.map_cons, List.map_nil]
              rw [if_neg hc38, if_pos hc39, if_neg hc60, if_neg hc61]
            rw [q]; exact V59
          · -- pc 92: f
            refine own_aloadN X59 hx hby d4_95 rfl rfl rfl ?_
            refine own_iconst X59 hx hby d4_96 rfl (3 : Int32) rfl ?_
            refine own_iload X59 hx hby d4_97 rfl rfl ?_
            refine own_iastore X59 hx hby hZ (own_g [l0, l1, l2, l3] ((x2 &&& (255 : Int32)) % x3)) rfl e59 V59 (by decide) 3 rfl (show 3 < 4 by decide) [(.int l0), (.int (own_g [l0, l1, l2, l3] ((x2 &&& (255 : Int32)) % x3))), (.int l2), (.int (own_g [l0, l1, l2, l3] ((x2 &&& (255 : Int32)) % x3)))] rfl rfl N59 gl d4_99 rfl (fun T66 h66 L66 X66 e66 W66 V66 N66 => ?_)
            refine own_retV X66 hx hby hret hlk d4_100 (by decide) (by decide) ?_
            have f67 := ((((Keep.refl h0 [pa, x0, x1]).trans K34 (allS (Or.inl (by simp)) (allS (Or.inl (by simp)) all0))).wr W59 (Or.inl (by simp))).wr W66 (Or.inl (by simp)))
            have f68 := ((Fp34.other W59 (Or.inl nl)).other W66 (Or.inl nl))
            have f69 := ((Fn34.other W59 (Or.inl nl)).other W66 (Or.inl nl))
            have f70 := ((V34.other W59 np).other W66 np)
            rw [e66]
            refine ⟨rfl, N66, f67, f68, f69, f70, ?_⟩
            have q : own_rl [l0, l1, l2, l3] (own_g [l0, l1, l2, l3] ((x2 &&& (255 : Int32)) % x3)) (own_g [l0, l1, l2, l3] ((((x2.toUInt32 >>> ((8 : Int32) &&& 31).toUInt32).toInt32) &&& (255 : Int32)) % x3)) = [l0, (own_g [l0, l1, l2, l3] ((x2 &&& (255 : Int32)) % x3)), l2, (own_g [l0, l1, l2, l3] ((x2 &&& (255 : Int32)) % x3))] := by
              rw [own_rl, if_neg hc36]
              simp only [List.map_cons, List.map_nil]
              rw [if_neg hc38, if_pos hc39, if_neg hc60, if_pos hc61]
            rw [q]; exact V66
        · -- pc 79: f
          refine own_aloadN X59 hx hby d4_82 rfl rfl rfl ?_
          refine own_iconst X59 hx hby d4_83 rfl (2 : Int32) rfl ?_
          refine own_iload X59 hx hby d4_84 rfl rfl ?_
          refine own_iastore X59 hx hby hZ (own_g [l0, l1, l2, l3] ((x2 &&& (255 : Int32)) % x3)) rfl e59 V59 (by decide) 2 rfl (show 2 < 4 by decide) [(.int l0), (.int (own_g [l0, l1, l2, l3] ((x2 &&& (255 : Int32)) % x3))), (.int (own_g [l0, l1, l2, l3] ((x2 &&& (255 : Int32)) % x3))), (.int l3)] rfl rfl N59 gl d4_86 rfl (fun T71 h71 L71 X71 e71 W71 V71 N71 => ?_)
          refine own_aloadN X71 hx hby d4_87 rfl rfl rfl ?_
          refine own_iconst X71 hx hby d4_88 rfl (3 : Int32) rfl ?_
          refine own_iaload X71 hx hby hZ l3 e71 V71 (by decide) rfl d4_89 rfl ?_
          refine own_iload X71 hx hby d4_90 rfl rfl ?_
          refine own_icmp_ne X71 hx hby d4_92 (pcY := 100) (pcN := 95) (by decide) rfl (fun (hc72 : ¬ l3 = (own_g [l0, l1, l2, l3] ((((x2.toUInt32 >>> ((8 : Int32) &&& 31).toUInt32).toInt32) &&& (255 : Int32)) % x3))) => ?_) (fun (hc72 : l3 = (own_g [l0, l1, l2, l3] ((((x2.toUInt32 >>> ((8 : Int32) &&& 31).toUInt32).toInt32) &&& (255 : Int32)) % x3))) => ?_)
          · -- pc 92: t
            refine own_retV X71 hx hby hret hlk d4_100 (by decide) (by decide) ?_
            have f73 := ((((Keep.refl h0 [pa, x0, x1]).trans K34 (allS (Or.inl (by simp)) (allS (Or.inl (by simp)) all0))).wr W59 (Or.inl (by simp))).wr W71 (Or.inl (by simp)))
            have f74 := ((Fp34.other W59 (Or.inl nl)).other W71 (Or.inl nl))
            have f75 := ((Fn34.other W59 (Or.inl nl)).other W71 (Or.inl nl))
            have f76 := ((V34.other W59 np).other W71 np)
            rw [e71]
            refine ⟨rfl, N71, f73, f74, f75, f76, ?_⟩
            have q : own_rl [l0, l1, l2, l3] (own_g [l0, l1, l2, l3] ((x2 &&& (255 : Int32)) % x3)) (own_g [l0, l1, l2, l3] ((((x2.toUInt32 >>> ((8 : Int32) &&& 31).toUInt32).toInt32) &&& (255 : Int32)) % x3)) = [l0, (own_g [l0, l1, l2, l3] ((x2 &&& (255 : Int32)) % x3)), (own_g [l0, l1, l2, l3] ((x2 &&& (255 : Int32)) % x3)), l3] := by
              rw [own_rl, if_neg hc36]
              simp only [List.map_cons, List.map_nil]
              rw [if_neg hc38, if_pos hc39, if_pos hc60, if_neg hc72]
            rw [q]; exact V71
          · -- pc 92: f
            refine own_aloadN X71 hx hby d4_95 rfl rfl rfl ?_
            refine own_iconst X71 hx hby d4_96 rfl (3 : Int32) rfl ?_
            refine own_iload X71 hx hby d4_97 rfl rfl ?_
            refine own_iastore X71 hx hby hZ (own_g [l0, l1, l2, l3] ((x2 &&& (255 : Int32)) % x3)) rfl e71 V71 (by decide) 3 rfl (show 3 < 4 by decide) [(.int l0), (.int (own_g [l0, l1, l2, l3] ((x2 &&& (255 : Int32)) % x3))), (.int (own_g [l0, l1, l2, l3] ((x2 &&& (255 : Int32)) % x3))), (.int (own_g [l0, l1, l2, l3] ((x2 &&& (255 : Int32)) % x3)))] rfl rfl N71 gl d4_99 rfl (fun T77 h77 L77 X77 e77 W77 V77 N77 => ?_)
            refine own_retV X77 hx hby hret hlk d4_100 (by decide) (by decide) ?_
            have f78 := (((((Keep.refl h0 [pa, x0, x1]).trans K34 (allS (Or.inl (by simp)) (allS (Or.inl (by simp)) all0))).wr W59 (Or.inl (by simp))).wr W71 (Or.inl (by simp))).wr W77 (Or.inl (by simp)))
            have f79 := (((Fp34.other W59 (Or.inl nl)).other W71 (Or.inl nl)).other W77 (Or.inl nl))
            have f80 := (((Fn34.other W59 (Or.inl nl)).other W71 (Or.inl nl)).other W77 (Or.inl nl))
            have f81 := (((V34.other W59 np).other W71 np).other W77 np)
            rw [e77]
            refine ⟨rfl, N77, f78, f79, f80, f81, ?_⟩
            have q : own_rl [l0, l1, l2, l3] (own_g [l0, l1, l2, l3] ((x2 &&& (255 : Int32)) % x3)) (own_g [l0, l1, l2, l3] ((((x2.toUInt32 >>> ((8 : Int32) &&& 31).toUInt32).toInt32) &&& (255 : Int32)) % x3)) = [l0, (own_g [l0, l1, l2, l3] ((x2 &&& (255 : Int32)) % x3)), (own_g [l0, l1, l2, l3] ((x2 &&& (255 : Int32)) % x3)), (own_g [l0, l1, l2, l3] ((x2 &&& (255 : Int32)) % x3))] := by
              rw [own_rl, if_neg hc36]
              simp only [List.map_cons, List.map_nil]
              rw [if_neg hc38, if_pos hc39, if_pos hc60, if_pos hc72]
            rw [q]; exact V77
    · -- pc 53: f
      refine own_aloadN X34 hx hby d4_56 rfl rfl rfl ?_
      refine own_iconst X34 hx hby d4_57 rfl (0 : Int32) rfl ?_
      refine own_iload X34 hx hby d4_58 rfl rfl ?_
      refine own_iastore X34 hx hby hZ (own_g [l0, l1, l2, l3] ((x2 &&& (255 : Int32)) % x3)) rfl rfl f35 (by decide) 0 rfl (show 0 < 4 by decide) [(.int (own_g [l0, l1, l2, l3] ((x2 &&& (255 : Int32)) % x3))), (.int l1), (.int l2), (.int l3)] rfl rfl (Fr.app N0 N34q) gl d4_60 rfl (fun T82 h82 L82 X82 e82 W82 V82 N82 => ?_)
      refine own_aloadN X82 hx hby d4_61 rfl rfl rfl ?_
      refine own_iconst X82 hx hby d4_62 rfl (1 : Int32) rfl ?_
      refine own_iaload X82 hx hby hZ l1 e82 V82 (by decide) rfl d4_63 rfl ?_
      refine own_iload X82 hx hby d4_64 rfl rfl ?_
      refine own_icmp_ne X82 hx hby d4_66 (pcY := 74) (pcN := 69) (by decide) rfl (fun (hc83 : ¬ l1 = (own_g [l0, l1, l2, l3] ((((x2.toUInt32 >>> ((8 : Int32) &&& 31).toUInt32).toInt32) &&& (255 : Int32)) % x3))) => ?_) (fun (hc83 : l1 = (own_g [l0, l1, l2, l3] ((((x2.toUInt32 >>> ((8 : Int32) &&& 31).toUInt32).toInt32) &&& (255 : Int32)) % x3))) => ?_)
      · -- pc 66: t
        refine own_aloadN X82 hx hby d4_74 rfl rfl rfl ?_
        refine own_iconst X82 hx hby d4_75 rfl (2 : Int32) rfl ?_
        refine own_iaload X82 hx hby hZ l2 e82 V82 (by decide) rfl d4_76 rfl ?_
        refine own_iload X82 hx hby d4_77 rfl rfl ?_
        refine own_icmp_ne X82 hx hby d4_79 (pcY := 87) (pcN := 82) (by decide) rfl (fun (hc84 : ¬ l2 = (own_g [l0, l1, l2, l3] ((((x2.toUInt32 >>> ((8 : Int32) &&& 31).toUInt32).toInt32) &&& (255 : Int32)) % x3))) => ?_) (fun (hc84 : l2 = (own_g [l0, l1, l2, l3] ((((x2.toUInt32 >>> ((8 : Int32) &&& 31).toUInt32).toInt32) &&& (255 : Int32)) % x3))) => ?_)
        · -- pc 79: t
          refine own_aloadN X82 hx hby d4_87 rfl rfl rfl ?_
          refine own_iconst X82 hx hby d4_88 rfl (3 : Int32) rfl ?_
          refine own_iaload X82 hx hby hZ l3 e82 V82 (by decide) rfl d4_89 rfl ?_
          refine own_iload X82 hx hby d4_90 rfl rfl ?_
          refine own_icmp_ne X82 hx hby d4_92 (pcY := 100) (pcN := 95) (by decide) rfl (fun (hc85 : ¬ l3 = (own_g [l0, l1, l2, l3] ((((x2.toUInt32 >>> ((8 : Int32) &&& 31).toUInt32).toInt32) &&& (255 : Int32)) % x3))) => ?_) (fun (hc85 : l3 = (own_g [l0, l1, l2, l3] ((((x2.toUInt32 >>> ((8 : Int32) &&& 31).toUInt32).toInt32) &&& (255 : Int32)) % x3))) => ?_)
          · -- pc 92: t
            refine own_retV X82 hx hby hret hlk d4_100 (by decide) (by decide) ?_
            have f86 := (((Keep.refl h0 [pa, x0, x1]).trans K34 (allS (Or.inl (by simp)) (allS (Or.inl (by simp)) all0))).wr W82 (Or.inl (by simp)))
            have f87 := (Fp34.other W82 (Or.inl nl))
            have f88 := (Fn34.other W82 (Or.inl nl))
            have f89 := (V34.other W82 np)
            rw [e82]
            refine ⟨rfl, N82, f86, f87, f88, f89, ?_⟩
            have q : own_rl [l0, l1, l2, l3] (own_g [l0, l1, l2, l3] ((x2 &&& (255 : Int32)) % x3)) (own_g [l0, l1, l2, l3] ((((x2.toUInt32 >>> ((8 : Int32) &&& 31).toUInt32).toInt32) &&& (255 : Int32)) % x3)) = [(own_g [l0, l1, l2, l3] ((x2 &&& (255 : Int32)) % x3)), l1, l2, l3] := by
              rw [own_rl, if_neg hc36]
              simp only [List.map_cons, List.map_nil]
              rw [if_pos hc38, if_neg hc83, if_neg hc84, if_neg hc85]
            rw [q]; exact V82
          · -- pc 92: f
            refine own_aloadN X82 hx hby d4_95 rfl rfl rfl ?_
            refine own_iconst X82 hx hby d4_96 rfl (3 : Int32) rfl ?_
            refine own_iload X82 hx hby d4_97 rfl rfl ?_
            refine own_iastore X82 hx hby hZ (own_g [l0, l1, l2, l3] ((x2 &&& (255 : Int32)) % x3)) rfl e82 V82 (by decide) 3 rfl (show 3 < 4 by decide) [(.int (own_g [l0, l1, l2, l3] ((x2 &&& (255 : Int32)) % x3))), (.int l1), (.int l2), (.int (own_g [l0, l1, l2, l3] ((x2 &&& (255 : Int32)) % x3)))] rfl rfl N82 gl d4_99 rfl (fun T90 h90 L90 X90 e90 W90 V90 N90 => ?_)
            refine own_retV X90 hx hby hret hlk d4_100 (by decide) (by decide) ?_
            have f91 := ((((Keep.refl h0 [pa, x0, x1]).trans K34 (allS (Or.inl (by simp)) (allS (Or.inl (by simp)) all0))).wr W82 (Or.inl (by simp))).wr W90 (Or.inl (by simp)))
            have f92 := ((Fp34.other W82 (Or.inl nl)).other W90 (Or.inl nl))
            have f93 := ((Fn34.other W82 (Or.inl nl)).other W90 (Or.inl nl))
            have f94 := ((V34.other W82 np).other W90 np)
            rw [e90]
            refine ⟨rfl, N90, f91, f92, f93, f94, ?_⟩
            have q : own_rl [l0, l1, l2, l3] (own_g [l0, l1, l2, l3] ((x2 &&& (255 : Int32)) % x3)) (own_g [l0, l1, l2, l3] ((((x2.toUInt32 >>> ((8 : Int32) &&& 31).toUInt32).toInt32) &&& (255 : Int32)) % x3)) = [(own_g [l0, l1, l2, l3] ((x2 &&& (255 : Int32)) % x3)), l1, l2, (own_g [l0, l1, l2, l3] ((x2 &&& (255 : Int32)) % x3))] := by
              rw [own_rl, if_neg hc36]
              simp only [List.map_cons, List.map_nil]
              rw [if_pos hc38, if_neg hc83, if_neg hc84, if_pos hc85]
            rw [q]; exact V90
        · -- pc 79: f
          refine own_aloadN X82 hx hby d4_82 rfl rfl rfl ?_
          refine own_iconst X82 hx hby d4_83 rfl (2 : Int32) rfl ?_
          refine own_iload X82 hx hby d4_84 rfl rfl ?_
          refine own_iastore X82 hx hby hZ (own_g [l0, l1, l2, l3] ((x2 &&& (255 : Int32)) % x3)) rfl e82 V82 (by decide) 2 rfl (show 2 < 4 by decide) [(.int (own_g [l0, l1, l2, l3] ((x2 &&& (255 : Int32)) % x3))), (.int l1), (.int (own_g [l0, l1, l2, l3] ((x2 &&& (255 : Int32)) % x3))), (.int l3)] rfl rfl N82 gl d4_86 rfl (fun T95 h95 L95 X95 e95 W95 V95 N95 => ?_)
          refine own_aloadN X95 hx hby d4_87 rfl rfl rfl ?_
          refine own_iconst X95 hx hby d4_88 rfl (3 : Int32) rfl ?_
          refine own_iaload X95 hx hby hZ l3 e95 V95 (by decide) rfl d4_89 rfl ?_
          refine own_iload X95 hx hby d4_90 rfl rfl ?_
          refine own_icmp_ne X95 hx hby d4_92 (pcY := 100) (pcN := 95) (by decide) rfl (fun (hc96 : ¬ l3 = (own_g [l0, l1, l2, l3] ((((x2.toUInt32 >>> ((8 : Int32) &&& 31).toUInt32).toInt32) &&& (255 : Int32)) % x3))) => ?_) (fun (hc96 : l3 = (own_g [l0, l1, l2, l3] ((((x2.toUInt32 >>> ((8 : Int32) &&& 31).toUInt32).toInt32) &&& (255 : Int32)) % x3))) => ?_)
          · -- pc 92: t
            refine own_retV X95 hx hby hret hlk d4_100 (by decide) (by decide) ?_
            have f97 := ((((Keep.refl h0 [pa, x0, x1]).trans K34 (allS (Or.inl (by simp)) (allS (Or.inl (by simp)) all0))).wr W82 (Or.inl (by simp))).wr W95 (Or.inl (by simp)))
            have f98 := ((Fp34.other W82 (Or.inl nl)).other W95 (Or.inl nl))
            have f99 := ((Fn34.other W82 (Or.inl nl)).other W95 (Or.inl nl))
            have f100 := ((V34.other W82 np).other W95 np)
            rw [e95]
            refine ⟨rfl, N95, f97, f98, f99, f100, ?_⟩
            have q : own_rl [l0, l1, l2, l3] (own_g [l0, l1, l2, l3] ((x2 &&& (255 : Int32)) % x3)) (own_g [l0, l1, l2, l3] ((((x2.toUInt32 >>> ((8 : Int32) &&& 31).toUInt32).toInt32) &&& (255 : Int32)) % x3)) = [(own_g [l0, l1, l2, l3] ((x2 &&& (255 : Int32)) % x3)), l1, (own_g [l0, l1, l2, l3] ((x2 &&& (255 : Int32)) % x3)), l3] := by
              rw [own_rl, if_neg hc36]
              simp only [List.map_cons, List.map_nil]
              rw [if_pos hc38, if_neg hc83, if_pos hc84, if_neg hc96]
            rw [q]; exact V95
          · -- pc 92: f
            refine own_aloadN X95 hx hby d4_95 rfl rfl rfl ?_
            refine own_iconst X95 hx hby d4_96 rfl (3 : Int32) rfl ?_
            refine own_iload X95 hx hby d4_97 rfl rfl ?_
            refine own_iastore X95 hx hby hZ (own_g [l0, l1, l2, l3] ((x2 &&& (255 : Int32)) % x3)) rfl e95 V95 (by decide) 3 rfl (show 3 < 4 by decide) [(.int (own_g [l0, l1, l2, l3] ((x2 &&& (255 : Int32)) % x3))), (.int l1), (.int (own_g [l0, l1, l2, l3] ((x2 &&& (255 : Int32)) % x3))), (.int (own_g [l0, l1, l2, l3] ((x2 &&& (255 : Int32)) % x3)))] rfl rfl N95 gl d4_99 rfl (fun T101 h101 L101 X101 e101 W101 V101 N101 => ?_)
            refine own_retV X101 hx hby hret hlk d4_100 (by decide) (by decide) ?_
            have f102 := (((((Keep.refl h0 [pa, x0, x1]).trans K34 (allS (Or.inl (by simp)) (allS (Or.inl (by simp)) all0))).wr W82 (Or.inl (by simp))).wr W95 (Or.inl (by simp))).wr W101 (Or.inl (by simp)))
            have f103 := (((Fp34.other W82 (Or.inl nl)).other W95 (Or.inl nl)).other W101 (Or.inl nl))
            have f104 := (((Fn34.other W82 (Or.inl nl)).other W95 (Or.inl nl)).other W101 (Or.inl nl))
            have f105 := (((V34.other W82 np).other W95 np).other W101 np)
            rw [e101]
            refine ⟨rfl, N101, f102, f103, f104, f105, ?_⟩
            have q : own_rl [l0, l1, l2, l3] (own_g [l0, l1, l2, l3] ((x2 &&& (255 : Int32)) % x3)) (own_g [l0, l1, l2, l3] ((((x2.toUInt32 >>> ((8 : Int32) &&& 31).toUInt32).toInt32) &&& (255 : Int32)) % x3)) = [(own_g [l0, l1, l2, l3] ((x2 &&& (255 : Int32)) % x3)), l1, (own_g [l0, l1, l2, l3] ((x2 &&& (255 : Int32)) % x3)), (own_g [l0, l1, l2, l3] ((x2 &&& (255 : Int32)) % x3))] := by
              rw [own_rl, if_neg hc36]
              simp only [List.map_cons, List.map_nil]
              rw [if_pos hc38, if_neg hc83, if_pos hc84, if_pos hc96]
            rw [q]; exact V101
      · -- pc 66: f
        refine own_aloadN X82 hx hby d4_69 rfl rfl rfl ?_
        refine own_iconst X82 hx hby d4_70 rfl (1 : Int32) rfl ?_
        refine own_iload X82 hx hby d4_71 rfl rfl ?_
        refine own_iastore X82 hx hby hZ (own_g [l0, l1, l2, l3] ((x2 &&& (255 : Int32)) % x3)) rfl e82 V82 (by decide) 1 rfl (show 1 < 4 by decide) [(.int (own_g [l0, l1, l2, l3] ((x2 &&& (255 : Int32)) % x3))), (.int (own_g [l0, l1, l2, l3] ((x2 &&& (255 : Int32)) % x3))), (.int l2), (.int l3)] rfl rfl N82 gl d4_73 rfl (fun T106 h106 L106 X106 e106 W106 V106 N106 => ?_)
        refine own_aloadN X106 hx hby d4_74 rfl rfl rfl ?_
        refine own_iconst X106 hx hby d4_75 rfl (2 : Int32) rfl ?_
        refine own_iaload X106 hx hby hZ l2 e106 V106 (by decide) rfl d4_76 rfl ?_
        refine own_iload X106 hx hby d4_77 rfl rfl ?_
        refine own_icmp_ne X106 hx hby d4_79 (pcY := 87) (pcN := 82) (by decide) rfl (fun (hc107 : ¬ l2 = (own_g [l0, l1, l2, l3] ((((x2.toUInt32 >>> ((8 : Int32) &&& 31).toUInt32).toInt32) &&& (255 : Int32)) % x3))) => ?_) (fun (hc107 : l2 = (own_g [l0, l1, l2, l3] ((((x2.toUInt32 >>> ((8 : Int32) &&& 31).toUInt32).toInt32) &&& (255 : Int32)) % x3))) => ?_)
        · -- pc 79: t
          refine own_aloadN X106 hx hby d4_87 rfl rfl rfl ?_
          refine own_iconst X106 hx hby d4_88 rfl (3 : Int32) rfl ?_
          refine own_iaload X106 hx hby hZ l3 e106 V106 (by decide) rfl d4_89 rfl ?_
          refine own_iload X106 hx hby d4_90 rfl rfl ?_
          refine own_icmp_ne X106 hx hby d4_92 (pcY := 100) (pcN := 95) (by decide) rfl (fun (hc108 : ¬ l3 = (own_g [l0, l1, l2, l3] ((((x2.toUInt32 >>> ((8 : Int32) &&& 31).toUInt32).toInt32) &&& (255 : Int32)) % x3))) => ?_) (fun (hc108 : l3 = (own_g [l0, l1, l2, l3] ((((x2.toUInt32 >>> ((8 : Int32) &&& 31).toUInt32).toInt32) &&& (255 : Int32)) % x3))) => ?_)
          · -- pc 92: t
            refine own_retV X106 hx hby hret hlk d4_100 (by decide) (by decide) ?_
            have f109 := ((((Keep.refl h0 [pa, x0, x1]).trans K34 (allS (Or.inl (by simp)) (allS (Or.inl (by simp)) all0))).wr W82 (Or.inl (by simp))).wr W106 (Or.inl (by simp)))
            have f110 := ((Fp34.other W82 (Or.inl nl)).other W106 (Or.inl nl))
            have f111 := ((Fn34.other W82 (Or.inl nl)).other W106 (Or.inl nl))
            have f112 := ((V34.other W82 np).other W106 np)
            rw [e106]
            refine ⟨rfl, N106, f109, f110, f111, f112, ?_⟩
            have q : own_rl [l0, l1, l2, l3] (own_g [l0, l1, l2, l3] ((x2 &&& (255 : Int32)) % x3)) (own_g [l0, l1, l2, l3] ((((x2.toUInt32 >>> ((8 : Int32) &&& 31).toUInt32).toInt32) &&& (255 : Int32)) % x3)) = [(own_g [l0, l1, l2, l3] ((x2 &&& (255 : Int32)) % x3)), (own_g [l0, l1, l2, l3] ((x2 &&& (255 : Int32)) % x3)), l2, l3] := by
              rw [own_rl, if_neg hc36]
              simp only [List.map_cons, List.map_nil]
              rw [if_pos hc38, if_pos hc83, if_neg hc107, if_neg hc108]
            rw [q]; exact V106
          · -- pc 92: f
            refine own_aloadN X106 hx hby d4_95 rfl rfl rfl ?_
            refine own_iconst X106 hx hby d4_96 rfl (3 : Int32) rfl ?_
            refine own_iload X106 hx hby d4_97 rfl rfl ?_
            refine own_iastore X106 hx hby hZ (own_g [l0, l1, l2, l3] ((x2 &&& (255 : Int32)) % x3)) rfl e106 V106 (by decide) 3 rfl (show 3 < 4 by decide) [(.int (own_g [l0, l1, l2, l3] ((x2 &&& (255 : Int32)) % x3))), (.int (own_g [l0, l1, l2, l3] ((x2 &&& (255 : Int32)) % x3))), (.int l2), (.int (own_g [l0, l1, l2, l3] ((x2 &&& (255 : Int32)) % x3)))] rfl rfl N106 gl d4_99 rfl (fun T113 h113 L113 X113 e113 W113 V113 N113 => ?_)
            refine own_retV X113 hx hby hret hlk d4_100 (by decide) (by decide) ?_
            have f114 := (((((Keep.refl h0 [pa, x0, x1]).trans K34 (allS (Or.inl (by simp)) (allS (Or.inl (by simp)) all0))).wr W82 (Or.inl (by simp))).wr W106 (Or.inl (by simp))).wr W113 (Or.inl (by simp)))
            have f115 := (((Fp34.other W82 (Or.inl nl)).other W106 (Or.inl nl)).other W113 (Or.inl nl))
            have f116 := (((Fn34.other W82 (Or.inl nl)).other W106 (Or.inl nl)).other W113 (Or.inl nl))
            have f117 := (((V34.other W82 np).other W106 np).other W113 np)
            rw [e113]
            refine ⟨rfl, N113, f114, f115, f116, f117, ?_⟩
            have q : own_rl [l0, l1, l2, l3] (own_g [l0, l1, l2, l3] ((x2 &&& (255 : Int32)) % x3)) (own_g [l0, l1, l2, l3] ((((x2.toUInt32 >>> ((8 : Int32) &&& 31).toUInt32).toInt32) &&& (255 : Int32)) % x3)) = [(own_g [l0, l1, l2, l3] ((x2 &&& (255 : Int32)) % x3)), (own_g [l0, l1, l2, l3] ((x2 &&& (255 : Int32)) % x3)), l2, (own_g [l0, l1, l2, l3] ((x2 &&& (255 : Int32)) % x3))] := by
              rw [own_rl, if_neg hc36]
              simp only [List.map_cons, List.map_nil]
              rw [if_pos hc38, if_pos hc83, if_neg hc107, if_pos hc108]
            rw [q]; exact V113
        · -- pc 79: f
          refine own_aloadN X106 hx hby d4_82 rfl rfl rfl ?_
          refine own_iconst X106 hx hby d4_83 rfl (2 : Int32) rfl ?_
          refine own_iload X106 hx hby d4_84 rfl rfl ?_
          refine own_iastore X106 hx hby hZ (own_g [l0, l1, l2, l3] ((x2 &&& (255 : Int32)) % x3)) rfl e106 V106 (by decide) 2 rfl (show 2 < 4 by decide) [(.int (own_g [l0, l1, l2, l3] ((x2 &&& (255 : Int32)) % x3))), (.int (own_g [l0, l1, l2, l3] ((x2 &&& (255 : Int32)) % x3))), (.int (own_g [l0, l1, l2, l3] ((x2 &&& (255 : Int32)) % x3))), (.int l3)] rfl rfl N106 gl d4_86 rfl (fun T118 h118 L118 X118 e118 W118 V118 N118 => ?_)
          refine own_aloadN X118 hx hby d4_87 rfl rfl rfl ?_
          refine own_iconst X118 hx hby d4_88 rfl (3 : Int32) rfl ?_
          refine own_iaload X118 hx hby hZ l3 e118 V118 (by decide) rfl d4_89 rfl ?_
          refine own_iload X118 hx hby d4_90 rfl rfl ?_
          refine own_icmp_ne X118 hx hby d4_92 (pcY := 100) (pcN := 95) (by decide) rfl (fun (hc119 : ¬ l3 = (own_g [l0, l1, l2, l3] ((((x2.toUInt32 >>> ((8 : Int32) &&& 31).toUInt32).toInt32) &&& (255 : Int32)) % x3))) => ?_) (fun (hc119 : l3 = (own_g [l0, l1, l2, l3] ((((x2.toUInt32 >>> ((8 : Int32) &&& 31).toUInt32).toInt32) &&& (255 : Int32)) % x3))) => ?_)
          · -- pc 92: t
            refine own_retV X118 hx hby hret hlk d4_100 (by decide) (by decide) ?_
            have f120 := (((((Keep.refl h0 [pa, x0, x1]).trans K34 (allS (Or.inl (by simp)) (allS (Or.inl (by simp)) all0))).wr W82 (Or.inl (by simp))).wr W106 (Or.inl (by simp))).wr W118 (Or.inl (by simp)))
            have f121 := (((Fp34.other W82 (Or.inl nl)).other W106 (Or.inl nl)).other W118 (Or.inl nl))
            have f122 := (((Fn34.other W82 (Or.inl nl)).other W106 (Or.inl nl)).other W118 (Or.inl nl))
            have f123 := (((V34.other W82 np).other W106 np).other W118 np)
            rw [e118]
            refine ⟨rfl, N118, f120, f121, f122, f123, ?_⟩
            have q : own_rl [l0, l1, l2, l3] (own_g [l0, l1, l2, l3] ((x2 &&& (255 : Int32)) % x3)) (own_g [l0, l1, l2, l3] ((((x2.toUInt32 >>> ((8 : Int32) &&& 31).toUInt32).toInt32) &&& (255 : Int32)) % x3)) = [(own_g [l0, l1, l2, l3] ((x2 &&& (255 : Int32)) % x3)), (own_g [l0, l1, l2, l3] ((x2 &&& (255 : Int32)) % x3)), (own_g [l0, l1, l2, l3] ((x2 &&& (255 : Int32)) % x3)), l3] := by
              rw [own_rl, if_neg hc36]
              simp only [List.map_cons, List.map_nil]
              rw [if_pos hc38, if_pos hc83, if_pos hc107, if_neg hc119]
            rw [q]; exact V118
          · -- pc 92: f
            refine own_aloadN X118 hx hby d4_95 rfl rfl rfl ?_
            refine own_iconst X118 hx hby d4_96 rfl (3 : Int32) rfl ?_
            refine own_iload X118 hx hby d4_97 rfl rfl ?_
            refine own_iastore X118 hx hby hZ (own_g [l0, l1, l2, l3] ((x2 &&& (255 : Int32)) % x3)) rfl e118 V118 (by decide) 3 rfl (show 3 < 4 by decide) [(.int (own_g [l0, l1, l2, l3] ((x2 &&& (255 : Int32)) % x3))), (.int (own_g [l0, l1, l2, l3] ((x2 &&& (255 : Int32)) % x3))), (.int (own_g [l0, l1, l2, l3] ((x2 &&& (255 : Int32)) % x3))), (.int (own_g [l0, l1, l2, l3] ((x2 &&& (255 : Int32)) % x3)))] rfl rfl N118 gl d4_99 rfl (fun T124 h124 L124 X124 e124 W124 V124 N124 => ?_)
            refine own_retV X124 hx hby hret hlk d4_100 (by decide) (by decide) ?_
            have f125 := ((((((Keep.refl h0 [pa, x0, x1]).trans K34 (allS (Or.inl (by simp)) (allS (Or.inl (by simp)) all0))).wr W82 (Or.inl (by simp))).wr W106 (Or.inl (by simp))).wr W118 (Or.inl (by simp))).wr W124 (Or.inl (by simp)))
            have f126 := ((((Fp34.other W82 (Or.inl nl)).other W106 (Or.inl nl)).other W118 (Or.inl nl)).other W124 (Or.inl nl))
            have f127 := ((((Fn34.other W82 (Or.inl nl)).other W106 (Or.inl nl)).other W118 (Or.inl nl)).other W124 (Or.inl nl))
            have f128 := ((((V34.other W82 np).other W106 np).other W118 np).other W124 np)
            rw [e124]
            refine ⟨rfl, N124, f125, f126, f127, f128, ?_⟩
            have q : own_rl [l0, l1, l2, l3] (own_g [l0, l1, l2, l3] ((x2 &&& (255 : Int32)) % x3)) (own_g [l0, l1, l2, l3] ((((x2.toUInt32 >>> ((8 : Int32) &&& 31).toUInt32).toInt32) &&& (255 : Int32)) % x3)) = [(own_g [l0, l1, l2, l3] ((x2 &&& (255 : Int32)) % x3)), (own_g [l0, l1, l2, l3] ((x2 &&& (255 : Int32)) % x3)), (own_g [l0, l1, l2, l3] ((x2 &&& (255 : Int32)) % x3)), (own_g [l0, l1, l2, l3] ((x2 &&& (255 : Int32)) % x3))] := by
              rw [own_rl, if_neg hc36]
              simp only [List.map_cons, List.map_nil]
              rw [if_pos hc38, if_pos hc83, if_pos hc107, if_pos hc119]
            rw [q]; exact V124
set_option maxRecDepth 65536 in
set_option maxHeartbeats 40000000 in
theorem rm1_0 (l : Launch) (Z : State) (a0 : Array Value) (hw : ∀ d ∈ tables_1, d.before a0 Z = true) (x0 : Addr) (h0 : Heap) (n0 : Nat) (O : Old Z n0 h0) (gx : n0 ≤ x0) (E : Exa Z h0 x0 "com/example/weftwork/weftwork/model/Components") (F : Fld Z h0 x0 "com/example/weftwork/weftwork/model/Components" "parent" "[I" .null) (Fc : Fld Z h0 x0 "com/example/weftwork/weftwork/model/Components" "count" "I" (.int (0 : Int32))) :
    OwnMet l Z (⟨"com/example/weftwork/weftwork/model/Components", "<init>", "(I)V"⟩ : MethodName) prog_43_method_1_code 3 none [] ({ frames := 1, cells := 1, slots := 0, locals := 12 } : Room) #[(.ref x0), (.int (0 : Int32))] h0 (fun v h L => v = none ∧ Fr n0 L ∧ Keep h0 h [x0] ∧ ∃ pa k, Fld Z h x0 "com/example/weftwork/weftwork/model/Components" "parent" "[I" (.ref pa) ∧ h0.size ≤ pa ∧ n0 ≤ pa ∧ Fld Z h x0 "com/example/weftwork/weftwork/model/Components" "count" "I" (.int (0 : Int32)) ∧ Arv Z h pa k .int (0 : Int32) [] (.int 0)) := by
  refine own_body (plainFor_of_name pn_0) (fun m => ef_1_0 m x0) ?_
  intro p e s m below meth c s₁ X0 hx hby hml hown hnm hret hlk hZ e0
  replace hown : s.vm.findClass "com/example/weftwork/weftwork/model/Components" = some m.cls := hown
  replace hml : c.maxLocals = 3 := hml
  have N0 := Fr.nil n0
  show Ends p.tables e below _ (s₁.setTop (mkF m 0 #[.val (.ref x0), .val (.int (0 : Int32)), .unset] []))
  refine own_aloadN X0 hx hby d1_0 rfl rfl rfl ?_
  refine own_initO X0 hx hby hZ hown (hw _ tw_7) (hw _ tw_8) (hw _ tw_9) e0 (by rw [hml]; rfl) (by decide) (W := 0) (Nat.le_refl _) (by decide) d1_1 rfl (fun T129 X129 e129 => ?_)
  refine own_aloadN X129 hx hby d1_4 rfl rfl rfl ?_
  refine own_iloadN X129 hx hby d1_5 rfl rfl ?_
  refine own_newarray X129 hx hby hZ (aty := .int) (hw _ tw_0) e129 (by decide) 0 (by decide) (by decide) (by decide) (by decide) .int rfl [] rfl d1_6 rfl (fun T130 h130 b130 k130 X130 e130 g130 E130 V130 => ?_)
  have ge_b130 : n0 ≤ b130 := own_ge O g130
  have sz_b130 : h0.size ≤ b130 := Nat.le_trans (Keep.refl h0 [x0]).1 (Nat.le_of_eq g130.symm)
  have ne_x0_b130 : x0 ≠ b130 := own_lt E.lt g130
  have f131 := (E.ext E130)
  have f132 := (F.ext E130)
  refine own_putfield X130 hx hby hZ hown (host := "") (Or.inl (hw _ tw_10)) Via.refl e130 f132 f131 (Or.inr ⟨(hw _ tw_11), rfl, hnm⟩) (hw _ tw_2) (ty := (.array .int)) (by decide) rfl rfl N0 gx  d1_8 rfl (fun T133 h133 L133 X133 e133 W133 N133 => ?_)
  have F133 := f132.same W133
  refine own_iconst X133 hx hby d1_11 rfl (0 : Int32) rfl ?_
  refine own_istoreN X133 hx hby d1_12 rfl #[.val (.ref x0), .val (.int (0 : Int32)), .val (.int (0 : Int32))] rfl ?_
  refine own_iloadN X133 hx hby d1_13 rfl rfl ?_
  refine own_iloadN X133 hx hby d1_14 rfl rfl ?_
  refine own_icmp_ge X133 hx hby d1_15 (pcY := 31) (pcN := 18) (by decide) rfl (fun (hc134 : 0 ≤ 0) => ?_) (fun (hc134 : 0 < 0) => False.elim (by exact absurd hc134 (by decide)))
  refine own_aloadN X133 hx hby d1_31 rfl rfl rfl ?_
  refine own_iloadN X133 hx hby d1_32 rfl rfl ?_
  have f135 := (f131.wr W133)
  have f136 := ((Fc.ext E130).other W133 (Or.inr (slot_ne (Or.inl (hw _ tw_13)) (Or.inr (hw _ tw_11)) (by decide) (t := .int) (t' := (.array .int)) (by decide) (by decide))))
  refine own_putfield X133 hx hby hZ hown (host := "") (Or.inl (hw _ tw_12)) Via.refl e133 f136 f135 (Or.inl (hw _ tw_13)) (hw _ tw_2) (ty := .int) (by decide) rfl rfl N133 gx  d1_33 rfl (fun T137 h137 L137 X137 e137 W137 N137 => ?_)
  have F137 := f136.same W137
  refine own_retV X137 hx hby hret hlk d1_36 (by decide) (by decide) ?_
  have f138 := ((((Keep.refl h0 [x0]).ext E130).wr W133 (Or.inl (by simp))).wr W137 (Or.inl (by simp)))
  have f139 := (F133.other W137 (Or.inr (slot_ne (Or.inr (hw _ tw_11)) (Or.inl (hw _ tw_13)) (by decide) (t := (.array .int)) (t' := .int) (by decide) (by decide))))
  have f140 := ((V130.other W133 (Ne.symm ne_x0_b130)).other W137 (Ne.symm ne_x0_b130))
  rw [e137]
  exact ⟨rfl, N137, f138, b130, _, f139, sz_b130, ge_b130, F137, f140⟩
set_option maxRecDepth 65536 in
set_option maxHeartbeats 40000000 in
theorem rm1_1 (l : Launch) (Z : State) (a0 : Array Value) (hw : ∀ d ∈ tables_1, d.before a0 Z = true) (x0 : Addr) (h0 : Heap) (n0 : Nat) (O : Old Z n0 h0) (gx : n0 ≤ x0) (E : Exa Z h0 x0 "com/example/weftwork/weftwork/model/Components") (F : Fld Z h0 x0 "com/example/weftwork/weftwork/model/Components" "parent" "[I" .null) (Fc : Fld Z h0 x0 "com/example/weftwork/weftwork/model/Components" "count" "I" (.int (0 : Int32))) :
    OwnMet l Z (⟨"com/example/weftwork/weftwork/model/Components", "<init>", "(I)V"⟩ : MethodName) prog_43_method_1_code 3 none [] ({ frames := 1, cells := 1, slots := 1, locals := 12 } : Room) #[(.ref x0), (.int (1 : Int32))] h0 (fun v h L => v = none ∧ Fr n0 L ∧ Keep h0 h [x0] ∧ ∃ pa k, Fld Z h x0 "com/example/weftwork/weftwork/model/Components" "parent" "[I" (.ref pa) ∧ h0.size ≤ pa ∧ n0 ≤ pa ∧ Fld Z h x0 "com/example/weftwork/weftwork/model/Components" "count" "I" (.int (1 : Int32)) ∧ Arv Z h pa k .int (1 : Int32) [(.int (0 : Int32))] (.int 0)) := by
  refine own_body (plainFor_of_name pn_0) (fun m => ef_1_1 m x0) ?_
  intro p e s m below meth c s₁ X0 hx hby hml hown hnm hret hlk hZ e0
  replace hown : s.vm.findClass "com/example/weftwork/weftwork/model/Components" = some m.cls := hown
  replace hml : c.maxLocals = 3 := hml
  have N0 := Fr.nil n0
  show Ends p.tables e below _ (s₁.setTop (mkF m 0 #[.val (.ref x0), .val (.int (1 : Int32)), .unset] []))
  refine own_aloadN X0 hx hby d1_0 rfl rfl rfl ?_
  refine own_initO X0 hx hby hZ hown (hw _ tw_7) (hw _ tw_8) (hw _ tw_9) e0 (by rw [hml]; rfl) (by decide) (W := 0) (Nat.le_refl _) (by decide) d1_1 rfl (fun T141 X141 e141 => ?_)
  refine own_aloadN X141 hx hby d1_4 rfl rfl rfl ?_
  refine own_iloadN X141 hx hby d1_5 rfl rfl ?_
  refine own_newarray X141 hx hby hZ (aty := .int) (hw _ tw_0) e141 (by decide) 1 (by decide) (by decide) (by decide) (by decide) .int rfl [(.int (0 : Int32))] rfl d1_6 rfl (fun T142 h142 b142 k142 X142 e142 g142 E142 V142 => ?_)
  have ge_b142 : n0 ≤ b142 := own_ge O g142
  have sz_b142 : h0.size ≤ b142 := Nat.le_trans (Keep.refl h0 [x0]).1 (Nat.le_of_eq g142.symm)
  have ne_x0_b142 : x0 ≠ b142 := own_lt E.lt g142
  have f143 := (E.ext E142)
  have f144 := (F.ext E142)
  refine own_putfield X142 hx hby hZ hown (host := "") (Or.inl (hw _ tw_10)) Via.refl e142 f144 f143 (Or.inr ⟨(hw _ tw_11), rfl, hnm⟩) (hw _ tw_2) (ty := (.array .int)) (by decide) rfl rfl N0 gx  d1_8 rfl (fun T145 h145 L145 X145 e145 W145 N145 => ?_)
  have F145 := f144.same W145
  refine own_iconst X145 hx hby d1_11 rfl (0 : Int32) rfl ?_
  refine own_istoreN X145 hx hby d1_12 rfl #[.val (.ref x0), .val (.int (1 : Int32)), .val (.int (0 : Int32))] rfl ?_
  refine own_iloadN X145 hx hby d1_13 rfl rfl ?_
  refine own_iloadN X145 hx hby d1_14 rfl rfl ?_
  refine own_icmp_ge X145 hx hby d1_15 (pcY := 31) (pcN := 18) (by decide) rfl (fun (hc146 : 1 ≤ 0) => False.elim (by exact absurd hc146 (by decide))) (fun (hc146 : 0 < 1) => ?_)
  refine own_aloadN X145 hx hby d1_18 rfl rfl rfl ?_
  refine own_getfield X145 hx hby hZ hown (host := "") (Or.inl (hw _ tw_10)) Via.refl e145 F145 d1_19 rfl (fun T147 X147 e147 => ?_)
  refine own_iloadN X147 hx hby d1_22 rfl rfl ?_
  refine own_iloadN X147 hx hby d1_23 rfl rfl ?_
  have f148 := (V142.other W145 (Ne.symm ne_x0_b142))
  refine own_iastore X147 hx hby hZ (0 : Int32) rfl e147 f148 (by decide) 0 rfl (show 0 < 1 by decide) [(.int (0 : Int32))] rfl rfl N145 ge_b142 d1_24 rfl (fun T149 h149 L149 X149 e149 W149 V149 N149 => ?_)
  refine own_iinc X149 hx hby d1_25 rfl (1 : Int32) rfl #[.val (.ref x0), .val (.int (1 : Int32)), .val (.int (1 : Int32))] rfl rfl ?_
  refine own_goto X149 hx hby d1_28 (pc' := 13) (by decide) ?_
  refine own_iloadN X149 hx hby d1_13 rfl rfl ?_
  refine own_iloadN X149 hx hby d1_14 rfl rfl ?_
  refine own_icmp_ge X149 hx hby d1_15 (pcY := 31) (pcN := 18) (by decide) rfl (fun (hc150 : 1 ≤ 1) => ?_) (fun (hc150 : 1 < 1) => False.elim (by exact absurd hc150 (by decide)))
  refine own_aloadN X149 hx hby d1_31 rfl rfl rfl ?_
  refine own_iloadN X149 hx hby d1_32 rfl rfl ?_
  have f151 := ((f143.wr W145).wr W149)
  have f152 := (((Fc.ext E142).other W145 (Or.inr (slot_ne (Or.inl (hw _ tw_13)) (Or.inr (hw _ tw_11)) (by decide) (t := .int) (t' := (.array .int)) (by decide) (by decide)))).other W149 (Or.inl ne_x0_b142))
  refine own_putfield X149 hx hby hZ hown (host := "") (Or.inl (hw _ tw_12)) Via.refl e149 f152 f151 (Or.inl (hw _ tw_13)) (hw _ tw_2) (ty := .int) (by decide) rfl rfl N149 gx  d1_33 rfl (fun T153 h153 L153 X153 e153 W153 N153 => ?_)
  have F153 := f152.same W153
  refine own_retV X153 hx hby hret hlk d1_36 (by decide) (by decide) ?_
  have f154 := (((((Keep.refl h0 [x0]).ext E142).wr W145 (Or.inl (by simp))).wr W149 (Or.inr sz_b142)).wr W153 (Or.inl (by simp)))
  have f155 := ((F145.other W149 (Or.inl ne_x0_b142)).other W153 (Or.inr (slot_ne (Or.inr (hw _ tw_11)) (Or.inl (hw _ tw_13)) (by decide) (t := (.array .int)) (t' := .int) (by decide) (by decide))))
  have f156 := (V149.other W153 (Ne.symm ne_x0_b142))
  rw [e153]
  exact ⟨rfl, N153, f154, b142, _, f155, sz_b142, ge_b142, F153, f156⟩
set_option maxRecDepth 65536 in
set_option maxHeartbeats 40000000 in
theorem rm1_2 (l : Launch) (Z : State) (a0 : Array Value) (hw : ∀ d ∈ tables_1, d.before a0 Z = true) (x0 : Addr) (h0 : Heap) (n0 : Nat) (O : Old Z n0 h0) (gx : n0 ≤ x0) (E : Exa Z h0 x0 "com/example/weftwork/weftwork/model/Components") (F : Fld Z h0 x0 "com/example/weftwork/weftwork/model/Components" "parent" "[I" .null) (Fc : Fld Z h0 x0 "com/example/weftwork/weftwork/model/Components" "count" "I" (.int (0 : Int32))) :
    OwnMet l Z (⟨"com/example/weftwork/weftwork/model/Components", "<init>", "(I)V"⟩ : MethodName) prog_43_method_1_code 3 none [] ({ frames := 1, cells := 1, slots := 2, locals := 12 } : Room) #[(.ref x0), (.int (2 : Int32))] h0 (fun v h L => v = none ∧ Fr n0 L ∧ Keep h0 h [x0] ∧ ∃ pa k, Fld Z h x0 "com/example/weftwork/weftwork/model/Components" "parent" "[I" (.ref pa) ∧ h0.size ≤ pa ∧ n0 ≤ pa ∧ Fld Z h x0 "com/example/weftwork/weftwork/model/Components" "count" "I" (.int (2 : Int32)) ∧ Arv Z h pa k .int (2 : Int32) [(.int (0 : Int32)), (.int (1 : Int32))] (.int 0)) := by
  refine own_body (plainFor_of_name pn_0) (fun m => ef_1_2 m x0) ?_
  intro p e s m below meth c s₁ X0 hx hby hml hown hnm hret hlk hZ e0
  replace hown : s.vm.findClass "com/example/weftwork/weftwork/model/Components" = some m.cls := hown
  replace hml : c.maxLocals = 3 := hml
  have N0 := Fr.nil n0
  show Ends p.tables e below _ (s₁.setTop (mkF m 0 #[.val (.ref x0), .val (.int (2 : Int32)), .unset] []))
  refine own_aloadN X0 hx hby d1_0 rfl rfl rfl ?_
  refine own_initO X0 hx hby hZ hown (hw _ tw_7) (hw _ tw_8) (hw _ tw_9) e0 (by rw [hml]; rfl) (by decide) (W := 0) (Nat.le_refl _) (by decide) d1_1 rfl (fun T157 X157 e157 => ?_)
  refine own_aloadN X157 hx hby d1_4 rfl rfl rfl ?_
  refine own_iloadN X157 hx hby d1_5 rfl rfl ?_
  refine own_newarray X157 hx hby hZ (aty := .int) (hw _ tw_0) e157 (by decide) 2 (by decide) (by decide) (by decide) (by decide) .int rfl [(.int (0 : Int32)), (.int (0 : Int32))] rfl d1_6 rfl (fun T158 h158 b158 k158 X158 e158 g158 E158 V158 => ?_)
  have ge_b158 : n0 ≤ b158 := own_ge O g158
  have sz_b158 : h0.size ≤ b158 := Nat.le_trans (Keep.refl h0 [x0]).1 (Nat.le_of_eq g158.symm)
  have ne_x0_b158 : x0 ≠ b158 := own_lt E.lt g158
  have f159 := (E.ext E158)
  have f160 := (F.ext E158)
  refine own_putfield X158 hx hby hZ hown (host := "") (Or.inl (hw _ tw_10)) Via.refl e158 f160 f159 (Or.inr ⟨(hw _ tw_11), rfl, hnm⟩) (hw _ tw_2) (ty := (.array .int)) (by decide) rfl rfl N0 gx  d1_8 rfl (fun T161 h161 L161 X161 e161 W161 N161 => ?_)
  have F161 := f160.same W161
  refine own_iconst X161 hx hby d1_11 rfl (0 : Int32) rfl ?_
  refine own_istoreN X161 hx hby d1_12 rfl #[.val (.ref x0), .val (.int (2 : Int32)), .val (.int (0 : Int32))] rfl ?_
  refine own_iloadN X161 hx hby d1_13 rfl rfl ?_
  refine own_iloadN X161 hx hby d1_14 rfl rfl ?_
  refine own_icmp_ge X161 hx hby d1_15 (pcY := 31) (pcN := 18) (by decide) rfl (fun (hc162 : 2 ≤ 0) => False.elim (by exact absurd hc162 (by decide))) (fun (hc162 : 0 < 2) => ?_)
  refine own_aloadN X161 hx hby d1_18 rfl rfl rfl ?_
  refine own_getfield X161 hx hby hZ hown (host := "") (Or.inl (hw _ tw_10)) Via.refl e161 F161 d1_19 rfl (fun T163 X163 e163 => ?_)
  refine own_iloadN X163 hx hby d1_22 rfl rfl ?_
  refine own_iloadN X163 hx hby d1_23 rfl rfl ?_
  have f164 := (V158.other W161 (Ne.symm ne_x0_b158))
  refine own_iastore X163 hx hby hZ (0 : Int32) rfl e163 f164 (by decide) 0 rfl (show 0 < 2 by decide) [(.int (0 : Int32)), (.int (0 : Int32))] rfl rfl N161 ge_b158 d1_24 rfl (fun T165 h165 L165 X165 e165 W165 V165 N165 => ?_)
  refine own_iinc X165 hx hby d1_25 rfl (1 : Int32) rfl #[.val (.ref x0), .val (.int (2 : Int32)), .val (.int (1 : Int32))] rfl rfl ?_
  refine own_goto X165 hx hby d1_28 (pc' := 13) (by decide) ?_
  refine own_iloadN X165 hx hby d1_13 rfl rfl ?_
  refine own_iloadN X165 hx hby d1_14 rfl rfl ?_
  refine own_icmp_ge X165 hx hby d1_15 (pcY := 31) (pcN := 18) (by decide) rfl (fun (hc166 : 2 ≤ 1) => False.elim (by exact absurd hc166 (by decide))) (fun (hc166 : 1 < 2) => ?_)
  refine own_aloadN X165 hx hby d1_18 rfl rfl rfl ?_
  have f167 := (F161.other W165 (Or.inl ne_x0_b158))
  refine own_getfield X165 hx hby hZ hown (host := "") (Or.inl (hw _ tw_10)) Via.refl e165 f167 d1_19 rfl (fun T168 X168 e168 => ?_)
  refine own_iloadN X168 hx hby d1_22 rfl rfl ?_
  refine own_iloadN X168 hx hby d1_23 rfl rfl ?_
  refine own_iastore X168 hx hby hZ (1 : Int32) rfl e168 V165 (by decide) 1 rfl (show 1 < 2 by decide) [(.int (0 : Int32)), (.int (1 : Int32))] rfl rfl N165 ge_b158 d1_24 rfl (fun T169 h169 L169 X169 e169 W169 V169 N169 => ?_)
  refine own_iinc X169 hx hby d1_25 rfl (1 : Int32) rfl #[.val (.ref x0), .val (.int (2 : Int32)), .val (.int (2 : Int32))] rfl rfl ?_
  refine own_goto X169 hx hby d1_28 (pc' := 13) (by decide) ?_
  refine own_iloadN X169 hx hby d1_13 rfl rfl ?_
  refine own_iloadN X169 hx hby d1_14 rfl rfl ?_
  refine own_icmp_ge X169 hx hby d1_15 (pcY := 31) (pcN := 18) (by decide) rfl (fun (hc170 : 2 ≤ 2) => ?_) (fun (hc170 : 2 < 2) => False.elim (by exact absurd hc170 (by decide)))
  refine own_aloadN X169 hx hby d1_31 rfl rfl rfl ?_
  refine own_iloadN X169 hx hby d1_32 rfl rfl ?_
  have f171 := (((f159.wr W161).wr W165).wr W169)
  have f172 := ((((Fc.ext E158).other W161 (Or.inr (slot_ne (Or.inl (hw _ tw_13)) (Or.inr (hw _ tw_11)) (by decide) (t := .int) (t' := (.array .int)) (by decide) (by decide)))).other W165 (Or.inl ne_x0_b158)).other W169 (Or.inl ne_x0_b158))
  refine own_putfield X169 hx hby hZ hown (host := "") (Or.inl (hw _ tw_12)) Via.refl e169 f172 f171 (Or.inl (hw _ tw_13)) (hw _ tw_2) (ty := .int) (by decide) rfl rfl N169 gx  d1_33 rfl (fun T173 h173 L173 X173 e173 W173 N173 => ?_)
  have F173 := f172.same W173
  refine own_retV X173 hx hby hret hlk d1_36 (by decide) (by decide) ?_
  have f174 := ((((((Keep.refl h0 [x0]).ext E158).wr W161 (Or.inl (by simp))).wr W165 (Or.inr sz_b158)).wr W169 (Or.inr sz_b158)).wr W173 (Or.inl (by simp)))
  have f175 := ((f167.other W169 (Or.inl ne_x0_b158)).other W173 (Or.inr (slot_ne (Or.inr (hw _ tw_11)) (Or.inl (hw _ tw_13)) (by decide) (t := (.array .int)) (t' := .int) (by decide) (by decide))))
  have f176 := (V169.other W173 (Ne.symm ne_x0_b158))
  rw [e173]
  exact ⟨rfl, N173, f174, b158, _, f175, sz_b158, ge_b158, F173, f176⟩
set_option maxRecDepth 65536 in
set_option maxHeartbeats 40000000 in
theorem rm1_3 (l : Launch) (Z : State) (a0 : Array Value) (hw : ∀ d ∈ tables_1, d.before a0 Z = true) (x0 : Addr) (h0 : Heap) (n0 : Nat) (O : Old Z n0 h0) (gx : n0 ≤ x0) (E : Exa Z h0 x0 "com/example/weftwork/weftwork/model/Components") (F : Fld Z h0 x0 "com/example/weftwork/weftwork/model/Components" "parent" "[I" .null) (Fc : Fld Z h0 x0 "com/example/weftwork/weftwork/model/Components" "count" "I" (.int (0 : Int32))) :
    OwnMet l Z (⟨"com/example/weftwork/weftwork/model/Components", "<init>", "(I)V"⟩ : MethodName) prog_43_method_1_code 3 none [] ({ frames := 1, cells := 1, slots := 3, locals := 12 } : Room) #[(.ref x0), (.int (3 : Int32))] h0 (fun v h L => v = none ∧ Fr n0 L ∧ Keep h0 h [x0] ∧ ∃ pa k, Fld Z h x0 "com/example/weftwork/weftwork/model/Components" "parent" "[I" (.ref pa) ∧ h0.size ≤ pa ∧ n0 ≤ pa ∧ Fld Z h x0 "com/example/weftwork/weftwork/model/Components" "count" "I" (.int (3 : Int32)) ∧ Arv Z h pa k .int (3 : Int32) [(.int (0 : Int32)), (.int (1 : Int32)), (.int (2 : Int32))] (.int 0)) := by
  refine own_body (plainFor_of_name pn_0) (fun m => ef_1_3 m x0) ?_
  intro p e s m below meth c s₁ X0 hx hby hml hown hnm hret hlk hZ e0
  replace hown : s.vm.findClass "com/example/weftwork/weftwork/model/Components" = some m.cls := hown
  replace hml : c.maxLocals = 3 := hml
  have N0 := Fr.nil n0
  show Ends p.tables e below _ (s₁.setTop (mkF m 0 #[.val (.ref x0), .val (.int (3 : Int32)), .unset] []))
  refine own_aloadN X0 hx hby d1_0 rfl rfl rfl ?_
  refine own_initO X0 hx hby hZ hown (hw _ tw_7) (hw _ tw_8) (hw _ tw_9) e0 (by rw [hml]; rfl) (by decide) (W := 0) (Nat.le_refl _) (by decide) d1_1 rfl (fun T177 X177 e177 => ?_)
  refine own_aloadN X177 hx hby d1_4 rfl rfl rfl ?_
  refine own_iloadN X177 hx hby d1_5 rfl rfl ?_
  refine own_newarray X177 hx hby hZ (aty := .int) (hw _ tw_0) e177 (by decide) 3 (by decide) (by decide) (by decide) (by decide) .int rfl [(.int (0 : Int32)), (.int (0 : Int32)), (.int (0 : Int32))] rfl d1_6 rfl (fun T178 h178 b178 k178 X178 e178 g178 E178 V178 => ?_)
  have ge_b178 : n0 ≤ b178 := own_ge O g178
  have sz_b178 : h0.size ≤ b178 := Nat.le_trans (Keep.refl h0 [x0]).1 (Nat.le_of_eq g178.symm)
  have ne_x0_b178 : x0 ≠ b178 := own_lt E.lt g178
  have f179 := (E.ext E178)
  have f180 := (F.ext E178)
  refine own_putfield X178 hx hby hZ hown (host := "") (Or.inl (hw _ tw_10)) Via.refl e178 f180 f179 (Or.inr ⟨(hw _ tw_11), rfl, hnm⟩) (hw _ tw_2) (ty := (.array .int)) (by decide) rfl rfl N0 gx  d1_8 rfl (fun T181 h181 L181 X181 e181 W181 N181 => ?_)
  have F181 := f180.same W181
  refine own_iconst X181 hx hby d1_11 rfl (0 : Int32) rfl ?_
  refine own_istoreN X181 hx hby d1_12 rfl #[.val (.ref x0), .val (.int (3 : Int32)), .val (.int (0 : Int32))] rfl ?_
  refine own_iloadN X181 hx hby d1_13 rfl rfl ?_
  refine own_iloadN X181 hx hby d1_14 rfl rfl ?_
  refine own_icmp_ge X181 hx hby d1_15 (pcY := 31) (pcN := 18) (by decide) rfl (fun (hc182 : 3 ≤ 0) => False.elim (by exact absurd hc182 (by decide))) (fun (hc182 : 0 < 3) => ?_)
  refine own_aloadN X181 hx hby d1_18 rfl rfl rfl ?_
  refine own_getfield X181 hx hby hZ hown (host := "") (Or.inl (hw _ tw_10)) Via.refl e181 F181 d1_19 rfl (fun T183 X183 e183 => ?_)
  refine own_iloadN X183 hx hby d1_22 rfl rfl ?_
  refine own_iloadN X183 hx hby d1_23 rfl rfl ?_
  have f184 := (V178.other W181 (Ne.symm ne_x0_b178))
  refine own_iastore X183 hx hby hZ (0 : Int32) rfl e183 f184 (by decide) 0 rfl (show 0 < 3 by decide) [(.int (0 : Int32)), (.int (0 : Int32)), (.int (0 : Int32))] rfl rfl N181 ge_b178 d1_24 rfl (fun T185 h185 L185 X185 e185 W185 V185 N185 => ?_)
  refine own_iinc X185 hx hby d1_25 rfl (1 : Int32) rfl #[.val (.ref x0), .val (.int (3 : Int32)), .val (.int (1 : Int32))] rfl rfl ?_
  refine own_goto X185 hx hby d1_28 (pc' := 13) (by decide) ?_
  refine own_iloadN X185 hx hby d1_13 rfl rfl ?_
  refine own_iloadN X185 hx hby d1_14 rfl rfl ?_
  refine own_icmp_ge X185 hx hby d1_15 (pcY := 31) (pcN := 18) (by decide) rfl (fun (hc186 : 3 ≤ 1) => False.elim (by exact absurd hc186 (by decide))) (fun (hc186 : 1 < 3) => ?_)
  refine own_aloadN X185 hx hby d1_18 rfl rfl rfl ?_
  have f187 := (F181.other W185 (Or.inl ne_x0_b178))
  refine own_getfield X185 hx hby hZ hown (host := "") (Or.inl (hw _ tw_10)) Via.refl e185 f187 d1_19 rfl (fun T188 X188 e188 => ?_)
  refine own_iloadN X188 hx hby d1_22 rfl rfl ?_
  refine own_iloadN X188 hx hby d1_23 rfl rfl ?_
  refine own_iastore X188 hx hby hZ (1 : Int32) rfl e188 V185 (by decide) 1 rfl (show 1 < 3 by decide) [(.int (0 : Int32)), (.int (1 : Int32)), (.int (0 : Int32))] rfl rfl N185 ge_b178 d1_24 rfl (fun T189 h189 L189 X189 e189 W189 V189 N189 => ?_)
  refine own_iinc X189 hx hby d1_25 rfl (1 : Int32) rfl #[.val (.ref x0), .val (.int (3 : Int32)), .val (.int (2 : Int32))] rfl rfl ?_
  refine own_goto X189 hx hby d1_28 (pc' := 13) (by decide) ?_
  refine own_iloadN X189 hx hby d1_13 rfl rfl ?_
  refine own_iloadN X189 hx hby d1_14 rfl rfl ?_
  refine own_icmp_ge X189 hx hby d1_15 (pcY := 31) (pcN := 18) (by decide) rfl (fun (hc190 : 3 ≤ 2) => False.elim (by exact absurd hc190 (by decide))) (fun (hc190 : 2 < 3) => ?_)
  refine own_aloadN X189 hx hby d1_18 rfl rfl rfl ?_
  have f191 := (f187.other W189 (Or.inl ne_x0_b178))
  refine own_getfield X189 hx hby hZ hown (host := "") (Or.inl (hw _ tw_10)) Via.refl e189 f191 d1_19 rfl (fun T192 X192 e192 => ?_)
  refine own_iloadN X192 hx hby d1_22 rfl rfl ?_
  refine own_iloadN X192 hx hby d1_23 rfl rfl ?_
  refine own_iastore X192 hx hby hZ (2 : Int32) rfl e192 V189 (by decide) 2 rfl (show 2 < 3 by decide) [(.int (0 : Int32)), (.int (1 : Int32)), (.int (2 : Int32))] rfl rfl N189 ge_b178 d1_24 rfl (fun T193 h193 L193 X193 e193 W193 V193 N193 => ?_)
  refine own_iinc X193 hx hby d1_25 rfl (1 : Int32) rfl #[.val (.ref x0), .val (.int (3 : Int32)), .val (.int (3 : Int32))] rfl rfl ?_
  refine own_goto X193 hx hby d1_28 (pc' := 13) (by decide) ?_
  refine own_iloadN X193 hx hby d1_13 rfl rfl ?_
  refine own_iloadN X193 hx hby d1_14 rfl rfl ?_
  refine own_icmp_ge X193 hx hby d1_15 (pcY := 31) (pcN := 18) (by decide) rfl (fun (hc194 : 3 ≤ 3) => ?_) (fun (hc194 : 3 < 3) => False.elim (by exact absurd hc194 (by decide)))
  refine own_aloadN X193 hx hby d1_31 rfl rfl rfl ?_
  refine own_iloadN X193 hx hby d1_32 rfl rfl ?_
  have f195 := ((((f179.wr W181).wr W185).wr W189).wr W193)
  have f196 := (((((Fc.ext E178).other W181 (Or.inr (slot_ne (Or.inl (hw _ tw_13)) (Or.inr (hw _ tw_11)) (by decide) (t := .int) (t' := (.array .int)) (by decide) (by decide)))).other W185 (Or.inl ne_x0_b178)).other W189 (Or.inl ne_x0_b178)).other W193 (Or.inl ne_x0_b178))
  refine own_putfield X193 hx hby hZ hown (host := "") (Or.inl (hw _ tw_12)) Via.refl e193 f196 f195 (Or.inl (hw _ tw_13)) (hw _ tw_2) (ty := .int) (by decide) rfl rfl N193 gx  d1_33 rfl (fun T197 h197 L197 X197 e197 W197 N197 => ?_)
  have F197 := f196.same W197
  refine own_retV X197 hx hby hret hlk d1_36 (by decide) (by decide) ?_
  have f198 := (((((((Keep.refl h0 [x0]).ext E178).wr W181 (Or.inl (by simp))).wr W185 (Or.inr sz_b178)).wr W189 (Or.inr sz_b178)).wr W193 (Or.inr sz_b178)).wr W197 (Or.inl (by simp)))
  have f199 := ((f191.other W193 (Or.inl ne_x0_b178)).other W197 (Or.inr (slot_ne (Or.inr (hw _ tw_11)) (Or.inl (hw _ tw_13)) (by decide) (t := (.array .int)) (t' := .int) (by decide) (by decide))))
  have f200 := (V193.other W197 (Ne.symm ne_x0_b178))
  rw [e197]
  exact ⟨rfl, N197, f198, b178, _, f199, sz_b178, ge_b178, F197, f200⟩
set_option maxRecDepth 65536 in
set_option maxHeartbeats 40000000 in
theorem rm1_4 (l : Launch) (Z : State) (a0 : Array Value) (hw : ∀ d ∈ tables_1, d.before a0 Z = true) (x0 : Addr) (h0 : Heap) (n0 : Nat) (O : Old Z n0 h0) (gx : n0 ≤ x0) (E : Exa Z h0 x0 "com/example/weftwork/weftwork/model/Components") (F : Fld Z h0 x0 "com/example/weftwork/weftwork/model/Components" "parent" "[I" .null) (Fc : Fld Z h0 x0 "com/example/weftwork/weftwork/model/Components" "count" "I" (.int (0 : Int32))) :
    OwnMet l Z (⟨"com/example/weftwork/weftwork/model/Components", "<init>", "(I)V"⟩ : MethodName) prog_43_method_1_code 3 none [] ({ frames := 1, cells := 1, slots := 4, locals := 12 } : Room) #[(.ref x0), (.int (4 : Int32))] h0 (fun v h L => v = none ∧ Fr n0 L ∧ Keep h0 h [x0] ∧ ∃ pa k, Fld Z h x0 "com/example/weftwork/weftwork/model/Components" "parent" "[I" (.ref pa) ∧ h0.size ≤ pa ∧ n0 ≤ pa ∧ Fld Z h x0 "com/example/weftwork/weftwork/model/Components" "count" "I" (.int (4 : Int32)) ∧ Arv Z h pa k .int (4 : Int32) [(.int (0 : Int32)), (.int (1 : Int32)), (.int (2 : Int32)), (.int (3 : Int32))] (.int 0)) := by
  refine own_body (plainFor_of_name pn_0) (fun m => ef_1_4 m x0) ?_
  intro p e s m below meth c s₁ X0 hx hby hml hown hnm hret hlk hZ e0
  replace hown : s.vm.findClass "com/example/weftwork/weftwork/model/Components" = some m.cls := hown
  replace hml : c.maxLocals = 3 := hml
  have N0 := Fr.nil n0
  show Ends p.tables e below _ (s₁.setTop (mkF m 0 #[.val (.ref x0), .val (.int (4 : Int32)), .unset] []))
  refine own_aloadN X0 hx hby d1_0 rfl rfl rfl ?_
  refine own_initO X0 hx hby hZ hown (hw _ tw_7) (hw _ tw_8) (hw _ tw_9) e0 (by rw [hml]; rfl) (by decide) (W := 0) (Nat.le_refl _) (by decide) d1_1 rfl (fun T201 X201 e201 => ?_)
  refine own_aloadN X201 hx hby d1_4 rfl rfl rfl ?_
  refine own_iloadN X201 hx hby d1_5 rfl rfl ?_
  refine own_newarray X201 hx hby hZ (aty := .int) (hw _ tw_0) e201 (by decide) 4 (by decide) (by decide) (by decide) (by decide) .int rfl [(.int (0 : Int32)), (.int (0 : Int32)), (.int (0 : Int32)), (.int (0 : Int32))] rfl d1_6 rfl (fun T202 h202 b202 k202 X202 e202 g202 E202 V202 => ?_)
  have ge_b202 : n0 ≤ b202 := own_ge O g202
  have sz_b202 : h0.size ≤ b202 := Nat.le_trans (Keep.refl h0 [x0]).1 (Nat.le_of_eq g202.symm)
  have ne_x0_b202 : x0 ≠ b202 := own_lt E.lt g202
  have f203 := (E.ext E202)
  have f204 := (F.ext E202)
  refine own_putfield X202 hx hby hZ hown (host := "") (Or.inl (hw _ tw_10)) Via.refl e202 f204 f203 (Or.inr ⟨(hw _ tw_11), rfl, hnm⟩) (hw _ tw_2) (ty := (.array .int)) (by decide) rfl rfl N0 gx  d1_8 rfl (fun T205 h205 L205 X205 e205 W205 N205 => ?_)
  have F205 := f204.same W205
  refine own_iconst X205 hx hby d1_11 rfl (0 : Int32) rfl ?_
  refine own_istoreN X205 hx hby d1_12 rfl #[.val (.ref x0), .val (.int (4 : Int32)), .val (.int (0 : Int32))] rfl ?_
  refine own_iloadN X205 hx hby d1_13 rfl rfl ?_
  refine own_iloadN X205 hx hby d1_14 rfl rfl ?_
  refine own_icmp_ge X205 hx hby d1_15 (pcY := 31) (pcN := 18) (by decide) rfl (fun (hc206 : 4 ≤ 0) => False.elim (by exact absurd hc206 (by decide))) (fun (hc206 : 0 < 4) => ?_)
  refine own_aloadN X205 hx hby d1_18 rfl rfl rfl ?_
  refine own_getfield X205 hx hby hZ hown (host := "") (Or.inl (hw _ tw_10)) Via.refl e205 F205 d1_19 rfl (fun T207 X207 e207 => ?_)
  refine own_iloadN X207 hx hby d1_22 rfl rfl ?_
  refine own_iloadN X207 hx hby d1_23 rfl rfl ?_
  have f208 := (V202.other W205 (Ne.symm ne_x0_b202))
  refine own_iastore X207 hx hby hZ (0 : Int32) rfl e207 f208 (by decide) 0 rfl (show 0 < 4 by decide) [(.int (0 : Int32)), (.int (0 : Int32)), (.int (0 : Int32)), (.int (0 : Int32))] rfl rfl N205 ge_b202 d1_24 rfl (fun T209 h209 L209 X209 e209 W209 V209 N209 => ?_)
  refine own_iinc X209 hx hby d1_25 rfl (1 : Int32) rfl #[.val (.ref x0), .val (.int (4 : Int32)), .val (.int (1 : Int32))] rfl rfl ?_
  refine own_goto X209 hx hby d1_28 (pc' := 13) (by decide) ?_
  refine own_iloadN X209 hx hby d1_13 rfl rfl ?_
  refine own_iloadN X209 hx hby d1_14 rfl rfl ?_
  refine own_icmp_ge X209 hx hby d1_15 (pcY := 31) (pcN := 18) (by decide) rfl (fun (hc210 : 4 ≤ 1) => False.elim (by exact absurd hc210 (by decide))) (fun (hc210 : 1 < 4) => ?_)
  refine own_aloadN X209 hx hby d1_18 rfl rfl rfl ?_
  have f211 := (F205.other W209 (Or.inl ne_x0_b202))
  refine own_getfield X209 hx hby hZ hown (host := "") (Or.inl (hw _ tw_10)) Via.refl e209 f211 d1_19 rfl (fun T212 X212 e212 => ?_)
  refine own_iloadN X212 hx hby d1_22 rfl rfl ?_
  refine own_iloadN X212 hx hby d1_23 rfl rfl ?_
  refine own_iastore X212 hx hby hZ (1 : Int32) rfl e212 V209 (by decide) 1 rfl (show 1 < 4 by decide) [(.int (0 : Int32)), (.int (1 : Int32)), (.int (0 : Int32)), (.int (0 : Int32))] rfl rfl N209 ge_b202 d1_24 rfl (fun T213 h213 L213 X213 e213 W213 V213 N213 => ?_)
  refine own_iinc X213 hx hby d1_25 rfl (1 : Int32) rfl #[.val (.ref x0), .val (.int (4 : Int32)), .val (.int (2 : Int32))] rfl rfl ?_
  refine own_goto X213 hx hby d1_28 (pc' := 13) (by decide) ?_
  refine own_iloadN X213 hx hby d1_13 rfl rfl ?_
  refine own_iloadN X213 hx hby d1_14 rfl rfl ?_
  refine own_icmp_ge X213 hx hby d1_15 (pcY := 31) (pcN := 18) (by decide) rfl (fun (hc214 : 4 ≤ 2) => False.elim (by exact absurd hc214 (by decide))) (fun (hc214 : 2 < 4) => ?_)
  refine own_aloadN X213 hx hby d1_18 rfl rfl rfl ?_
  have f215 := (f211.other W213 (Or.inl ne_x0_b202))
  refine own_getfield X213 hx hby hZ hown (host := "") (Or.inl (hw _ tw_10)) Via.refl e213 f215 d1_19 rfl (fun T216 X216 e216 => ?_)
  refine own_iloadN X216 hx hby d1_22 rfl rfl ?_
  refine own_iloadN X216 hx hby d1_23 rfl rfl ?_
  refine own_iastore X216 hx hby hZ (2 : Int32) rfl e216 V213 (by decide) 2 rfl (show 2 < 4 by decide) [(.int (0 : Int32)), (.int (1 : Int32)), (.int (2 : Int32)), (.int (0 : Int32))] rfl rfl N213 ge_b202 d1_24 rfl (fun T217 h217 L217 X217 e217 W217 V217 N217 => ?_)
  refine own_iinc X217 hx hby d1_25 rfl (1 : Int32) rfl #[.val (.ref x0), .val (.int (4 : Int32)), .val (.int (3 : Int32))] rfl rfl ?_
  refine own_goto X217 hx hby d1_28 (pc' := 13) (by decide) ?_
  refine own_iloadN X217 hx hby d1_13 rfl rfl ?_
  refine own_iloadN X217 hx hby d1_14 rfl rfl ?_
  refine own_icmp_ge X217 hx hby d1_15 (pcY := 31) (pcN := 18) (by decide) rfl (fun (hc218 : 4 ≤ 3) => False.elim (by exact absurd hc218 (by decide))) (fun (hc218 : 3 < 4) => ?_)
  refine own_aloadN X217 hx hby d1_18 rfl rfl rfl ?_
  have f219 := (f215.other W217 (Or.inl ne_x0_b202))
  refine own_getfield X217 hx hby hZ hown (host := "") (Or.inl (hw _ tw_10)) Via.refl e217 f219 d1_19 rfl (fun T220 X220 e220 => ?_)
  refine own_iloadN X220 hx hby d1_22 rfl rfl ?_
  refine own_iloadN X220 hx hby d1_23 rfl rfl ?_
  refine own_iastore X220 hx hby hZ (3 : Int32) rfl e220 V217 (by decide) 3 rfl (show 3 < 4 by decide) [(.int (0 : Int32)), (.int (1 : Int32)), (.int (2 : Int32)), (.int (3 : Int32))] rfl rfl N217 ge_b202 d1_24 rfl (fun T221 h221 L221 X221 e221 W221 V221 N221 => ?_)
  refine own_iinc X221 hx hby d1_25 rfl (1 : Int32) rfl #[.val (.ref x0), .val (.int (4 : Int32)), .val (.int (4 : Int32))] rfl rfl ?_
  refine own_goto X221 hx hby d1_28 (pc' := 13) (by decide) ?_
  refine own_iloadN X221 hx hby d1_13 rfl rfl ?_
  refine own_iloadN X221 hx hby d1_14 rfl rfl ?_
  refine own_icmp_ge X221 hx hby d1_15 (pcY := 31) (pcN := 18) (by decide) rfl (fun (hc222 : 4 ≤ 4) => ?_) (fun (hc222 : 4 < 4) => False.elim (by exact absurd hc222 (by decide)))
  refine own_aloadN X221 hx hby d1_31 rfl rfl rfl ?_
  refine own_iloadN X221 hx hby d1_32 rfl rfl ?_
  have f223 := (((((f203.wr W205).wr W209).wr W213).wr W217).wr W221)
  have f224 := ((((((Fc.ext E202).other W205 (Or.inr (slot_ne (Or.inl (hw _ tw_13)) (Or.inr (hw _ tw_11)) (by decide) (t := .int) (t' := (.array .int)) (by decide) (by decide)))).other W209 (Or.inl ne_x0_b202)).other W213 (Or.inl ne_x0_b202)).other W217 (Or.inl ne_x0_b202)).other W221 (Or.inl ne_x0_b202))
  refine own_putfield X221 hx hby hZ hown (host := "") (Or.inl (hw _ tw_12)) Via.refl e221 f224 f223 (Or.inl (hw _ tw_13)) (hw _ tw_2) (ty := .int) (by decide) rfl rfl N221 gx  d1_33 rfl (fun T225 h225 L225 X225 e225 W225 N225 => ?_)
  have F225 := f224.same W225
  refine own_retV X225 hx hby hret hlk d1_36 (by decide) (by decide) ?_
  have f226 := ((((((((Keep.refl h0 [x0]).ext E202).wr W205 (Or.inl (by simp))).wr W209 (Or.inr sz_b202)).wr W213 (Or.inr sz_b202)).wr W217 (Or.inr sz_b202)).wr W221 (Or.inr sz_b202)).wr W225 (Or.inl (by simp)))
  have f227 := ((f219.other W221 (Or.inl ne_x0_b202)).other W225 (Or.inr (slot_ne (Or.inr (hw _ tw_11)) (Or.inl (hw _ tw_13)) (by decide) (t := (.array .int)) (t' := .int) (by decide) (by decide))))
  have f228 := (V221.other W225 (Ne.symm ne_x0_b202))
  rw [e225]
  exact ⟨rfl, N225, f226, b202, _, f227, sz_b202, ge_b202, F225, f228⟩
set_option maxRecDepth 65536 in
set_option maxHeartbeats 40000000 in
theorem tail1 {p : Program} {l : Launch} {e : Env} {s : State} {m : MethodId} {args : Array Value} {below : List Frame} {meth : Method} {c : Code} {Z : State} {a0 : Array Value} (hx : p.tables.exec = Jvm.exec) (hby : c.code = code) (hml : c.maxLocals = 9) (hown : s.vm.findClass "com/example/weftwork/weftwork/model/ComponentsWholePinLaw" = some m.cls) (hret : meth.sig.returnType = ret) (hlk : meth.locks = false) (hZ : Z.Warmed39 s.vm) (hw : ∀ d ∈ tables_1, d.before a0 Z = true) {cells slots n0 : Nat} {x0 x1 x2 x3 kk c0 l0 l1 l2 l3 : Int32} {ob lab : Addr} {kl : ClassId} {P : List Int32} {h : Heap} {locs : List Loc} {T0 : State} (hR : ((P, c0, [l0, l1, l2, l3]) : OwnT) ∈ own_R1) (hcs : cells ≤ 16) (hss : slots ≤ 128) (hN : Fr n0 locs) (E : Exa Z h ob "com/example/weftwork/weftwork/model/Components") (Fc : Fld Z h ob "com/example/weftwork/weftwork/model/Components" "count" "I" (.int c0)) (VL : Arv Z h lab kl .int (4 : Int32) [(.int l0), (.int l1), (.int l2), (.int l3)] (.int 0)) (X0 : Stand p l e room_1 s m args below meth c T0 locs cells slots) (e0 : T0.heap = h) :
    Ends p.tables e below (OwnFin s (fun v h L => v = some (.int 1) ∧ Fr n0 L) room_1.cells room_1.slots) (T0.setTop (mkF m 104 #[.val (.int x0), .val (.int x1), .val (.int x2), .val (.int x3), .val (.int (1 : Int32)), .val (.int kk), .val (.ref lab), .val (.ref ob), .unset] [])) := by
  refine own_iload X0 hx hby at_104 rfl rfl ?_
  refine own_iconst X0 hx hby at_106 rfl (1 : Int32) rfl ?_
  refine own_icmp_le X0 hx hby at_107 (pcY := 161) (pcN := 110) (by decide) rfl (fun (hc229 : 1 ≤ 1) => ?_) (fun (hc229 : 1 < 1) => False.elim (by exact absurd hc229 (by decide)))
  refine own_iconst X0 hx hby at_161 rfl (1 : Int32) rfl ?_
  refine own_goto X0 hx hby at_162 (pc' := 166) (by decide) ?_
  refine own_istore X0 hx hby at_166 rfl #[.val (.int x0), .val (.int x1), .val (.int x2), .val (.int x3), .val (.int (1 : Int32)), .val (.int kk), .val (.ref lab), .val (.ref ob), .val (.int (1 : Int32))] rfl ?_
  refine own_aload X0 hx hby at_168 rfl rfl rfl ?_
  refine own_virtual X0 hx hby hZ (Cn := "com/example/weftwork/weftwork/model/Components") (a := ob) (argsL := []) (rest := []) hown (hw _ tw_14) (hw _ tw_15) (hw _ tw_17) (hw _ tw_16) (hw _ tw_3) (hw _ tw_18) (by decide) (rm3 l Z a0 hw ob h Fc) E e0 (by rw [hml]; rfl) pd_3 rfl (by decide) (W := 0) (Nat.le_refl _) (by decide) (Nat.le_trans (Nat.add_le_add_right hcs _) (by decide)) (Nat.le_trans (Nat.add_le_add_right hss _) (by decide)) at_170 rfl rfl (fun v230 T230 L230 X230 hQ230 => ?_)
  obtain ⟨rfl, rfl, e230⟩ := hQ230
  show Ends p.tables e below _ (T230.setTop (mkF m 173 #[.val (.int x0), .val (.int x1), .val (.int x2), .val (.int x3), .val (.int (1 : Int32)), .val (.int kk), .val (.ref lab), .val (.ref ob), .val (.int (1 : Int32))] [(.int (own_wh c0))]))
  refine own_iload X230 hx hby at_173 rfl rfl ?_
  refine own_icmp_ne X230 hx hby at_175 (pcY := 182) (pcN := 178) (by decide) rfl (fun (hc231 : ¬ (own_wh c0) = (1 : Int32)) => False.elim (by have q := (own_fin1 hR).mpr trivial; exact hc231 (by rw [own_wh, if_neg (by omega)]))) (fun (hc231 : (own_wh c0) = (1 : Int32)) => ?_)
  refine own_iconst X230 hx hby at_178 rfl (1 : Int32) rfl ?_
  refine own_goto X230 hx hby at_179 (pc' := 183) (by decide) ?_
  refine own_ret X230 hx hby hret hlk at_183 (.int (1 : Int32)) rfl (Or.inl ⟨rfl, by simp, _, rfl⟩) (Nat.le_trans hcs (by decide)) (Nat.le_trans hss (by decide)) ?_
  exact ⟨rfl, (Fr.app hN (Fr.nil _))⟩
set_option maxRecDepth 65536 in
set_option maxHeartbeats 40000000 in
theorem tail2 {p : Program} {l : Launch} {e : Env} {s : State} {m : MethodId} {args : Array Value} {below : List Frame} {meth : Method} {c : Code} {Z : State} {a0 : Array Value} (hx : p.tables.exec = Jvm.exec) (hby : c.code = code) (hml : c.maxLocals = 9) (hown : s.vm.findClass "com/example/weftwork/weftwork/model/ComponentsWholePinLaw" = some m.cls) (hret : meth.sig.returnType = ret) (hlk : meth.locks = false) (hZ : Z.Warmed39 s.vm) (hw : ∀ d ∈ tables_1, d.before a0 Z = true) {cells slots n0 : Nat} {x0 x1 x2 x3 kk c0 l0 l1 l2 l3 : Int32} {ob lab : Addr} {kl : ClassId} {P : List Int32} {h : Heap} {locs : List Loc} {T0 : State} (hR : ((P, c0, [l0, l1, l2, l3]) : OwnT) ∈ own_R2) (hcs : cells ≤ 16) (hss : slots ≤ 128) (hN : Fr n0 locs) (E : Exa Z h ob "com/example/weftwork/weftwork/model/Components") (Fc : Fld Z h ob "com/example/weftwork/weftwork/model/Components" "count" "I" (.int c0)) (VL : Arv Z h lab kl .int (4 : Int32) [(.int l0), (.int l1), (.int l2), (.int l3)] (.int 0)) (X0 : Stand p l e room_1 s m args below meth c T0 locs cells slots) (e0 : T0.heap = h) :
    Ends p.tables e below (OwnFin s (fun v h L => v = some (.int 1) ∧ Fr n0 L) room_1.cells room_1.slots) (T0.setTop (mkF m 104 #[.val (.int x0), .val (.int x1), .val (.int x2), .val (.int x3), .val (.int (2 : Int32)), .val (.int kk), .val (.ref lab), .val (.ref ob), .unset] [])) := by
  refine own_iload X0 hx hby at_104 rfl rfl ?_
  refine own_iconst X0 hx hby at_106 rfl (1 : Int32) rfl ?_
  refine own_icmp_le X0 hx hby at_107 (pcY := 161) (pcN := 110) (by decide) rfl (fun (hc232 : 2 ≤ 1) => False.elim (by exact absurd hc232 (by decide))) (fun (hc232 : 1 < 2) => ?_)
  refine own_iload X0 hx hby at_110 rfl rfl ?_
  refine own_iconst X0 hx hby at_112 rfl (2 : Int32) rfl ?_
  refine own_icmp_lt X0 hx hby at_113 (pcY := 127) (pcN := 116) (by decide) rfl (fun (hc233 : 2 < 2) => False.elim (by exact absurd hc233 (by decide))) (fun (hc233 : 2 ≤ 2) => ?_)
  refine own_aload X0 hx hby at_116 rfl rfl rfl ?_
  refine own_iconst X0 hx hby at_118 rfl (1 : Int32) rfl ?_
  refine own_iaload X0 hx hby hZ l1 e0 VL (by decide) rfl at_119 rfl ?_
  refine own_aload X0 hx hby at_120 rfl rfl rfl ?_
  refine own_iconst X0 hx hby at_122 rfl (0 : Int32) rfl ?_
  refine own_iaload X0 hx hby hZ l0 e0 VL (by decide) rfl at_123 rfl ?_
  refine own_icmp_ne X0 hx hby at_124 (pcY := 165) (pcN := 127) (by decide) rfl (fun (hc234 : ¬ l1 = l0) => ?_) (fun (hc234 : l1 = l0) => ?_)
  · -- pc 124: t
    refine own_iconst X0 hx hby at_165 rfl (0 : Int32) rfl ?_
    refine own_istore X0 hx hby at_166 rfl #[.val (.int x0), .val (.int x1), .val (.int x2), .val (.int x3), .val (.int (2 : Int32)), .val (.int kk), .val (.ref lab), .val (.ref ob), .val (.int (0 : Int32))] rfl ?_
    refine own_aload X0 hx hby at_168 rfl rfl rfl ?_
    refine own_virtual X0 hx hby hZ (Cn := "com/example/weftwork/weftwork/model/Components") (a := ob) (argsL := []) (rest := []) hown (hw _ tw_14) (hw _ tw_15) (hw _ tw_17) (hw _ tw_16) (hw _ tw_3) (hw _ tw_18) (by decide) (rm3 l Z a0 hw ob h Fc) E e0 (by rw [hml]; rfl) pd_3 rfl (by decide) (W := 0) (Nat.le_refl _) (by decide) (Nat.le_trans (Nat.add_le_add_right hcs _) (by decide)) (Nat.le_trans (Nat.add_le_add_right hss _) (by decide)) at_170 rfl rfl (fun v235 T235 L235 X235 hQ235 => ?_)
    obtain ⟨rfl, rfl, e235⟩ := hQ235
    show Ends p.tables e below _ (T235.setTop (mkF m 173 #[.val (.int x0), .val (.int x1), .val (.int x2), .val (.int x3), .val (.int (2 : Int32)), .val (.int kk), .val (.ref lab), .val (.ref ob), .val (.int (0 : Int32))] [(.int (own_wh c0))]))
    refine own_iload X235 hx hby at_173 rfl rfl ?_
    refine own_icmp_ne X235 hx hby at_175 (pcY := 182) (pcN := 178) (by decide) rfl (fun (hc236 : ¬ (own_wh c0) = (0 : Int32)) => False.elim (by have q : ¬ c0.toInt ≤ 1 := fun q => hc234 ((own_fin2 hR).mp q); exact hc236 (by rw [own_wh, if_pos (by omega)]))) (fun (hc236 : (own_wh c0) = (0 : Int32)) => ?_)
    refine own_iconst X235 hx hby at_178 rfl (1 : Int32) rfl ?_
    refine own_goto X235 hx hby at_179 (pc' := 183) (by decide) ?_
    refine own_ret X235 hx hby hret hlk at_183 (.int (1 : Int32)) rfl (Or.inl ⟨rfl, by simp, _, rfl⟩) (Nat.le_trans hcs (by decide)) (Nat.le_trans hss (by decide)) ?_
    exact ⟨rfl, (Fr.app hN (Fr.nil _))⟩
  · -- pc 124: f
    refine own_iload X0 hx hby at_127 rfl rfl ?_
    refine own_iconst X0 hx hby at_129 rfl (3 : Int32) rfl ?_
    refine own_icmp_lt X0 hx hby at_130 (pcY := 144) (pcN := 133) (by decide) rfl (fun (hc237 : 2 < 3) => ?_) (fun (hc237 : 3 ≤ 2) => False.elim (by exact absurd hc237 (by decide)))
    refine own_iload X0 hx hby at_144 rfl rfl ?_
    refine own_iconst X0 hx hby at_146 rfl (4 : Int32) rfl ?_
    refine own_icmp_lt X0 hx hby at_147 (pcY := 161) (pcN := 150) (by decide) rfl (fun (hc238 : 2 < 4) => ?_) (fun (hc238 : 4 ≤ 2) => False.elim (by exact absurd hc238 (by decide)))
    refine own_iconst X0 hx hby at_161 rfl (1 : Int32) rfl ?_
    refine own_goto X0 hx hby at_162 (pc' := 166) (by decide) ?_
    refine own_istore X0 hx hby at_166 rfl #[.val (.int x0), .val (.int x1), .val (.int x2), .val (.int x3), .val (.int (2 : Int32)), .val (.int kk), .val (.ref lab), .val (.ref ob), .val (.int (1 : Int32))] rfl ?_
    refine own_aload X0 hx hby at_168 rfl rfl rfl ?_
    refine own_virtual X0 hx hby hZ (Cn := "com/example/weftwork/weftwork/model/Components") (a := ob) (argsL := []) (rest := []) hown (hw _ tw_14) (hw _ tw_15) (hw _ tw_17) (hw _ tw_16) (hw _ tw_3) (hw _ tw_18) (by decide) (rm3 l Z a0 hw ob h Fc) E e0 (by rw [hml]; rfl) pd_3 rfl (by decide) (W := 0) (Nat.le_refl _) (by decide) (Nat.le_trans (Nat.add_le_add_right hcs _) (by decide)) (Nat.le_trans (Nat.add_le_add_right hss _) (by decide)) at_170 rfl rfl (fun v239 T239 L239 X239 hQ239 => ?_)
    obtain ⟨rfl, rfl, e239⟩ := hQ239
    show Ends p.tables e below _ (T239.setTop (mkF m 173 #[.val (.int x0), .val (.int x1), .val (.int x2), .val (.int x3), .val (.int (2 : Int32)), .val (.int kk), .val (.ref lab), .val (.ref ob), .val (.int (1 : Int32))] [(.int (own_wh c0))]))
    refine own_iload X239 hx hby at_173 rfl rfl ?_
    refine own_icmp_ne X239 hx hby at_175 (pcY := 182) (pcN := 178) (by decide) rfl (fun (hc240 : ¬ (own_wh c0) = (1 : Int32)) => False.elim (by have q := (own_fin2 hR).mpr hc234; exact hc240 (by rw [own_wh, if_neg (by omega)]))) (fun (hc240 : (own_wh c0) = (1 : Int32)) => ?_)
    refine own_iconst X239 hx hby at_178 rfl (1 : Int32) rfl ?_
    refine own_goto X239 hx hby at_179 (pc' := 183) (by decide) ?_
    refine own_ret X239 hx hby hret hlk at_183 (.int (1 : Int32)) rfl (Or.inl ⟨rfl, by simp, _, rfl⟩) (Nat.le_trans hcs (by decide)) (Nat.le_trans hss (by decide)) ?_
    exact ⟨rfl, (Fr.app hN (Fr.nil _))⟩
set_option maxRecDepth 65536 in
set_option maxHeartbeats 40000000 in
theorem tail3 {p : Program} {l : Launch} {e : Env} {s : State} {m : MethodId} {args : Array Value} {below : List Frame} {meth : Method} {c : Code} {Z : State} {a0 : Array Value} (hx : p.tables.exec = Jvm.exec) (hby : c.code = code) (hml : c.maxLocals = 9) (hown : s.vm.findClass "com/example/weftwork/weftwork/model/ComponentsWholePinLaw" = some m.cls) (hret : meth.sig.returnType = ret) (hlk : meth.locks = false) (hZ : Z.Warmed39 s.vm) (hw : ∀ d ∈ tables_1, d.before a0 Z = true) {cells slots n0 : Nat} {x0 x1 x2 x3 kk c0 l0 l1 l2 l3 : Int32} {ob lab : Addr} {kl : ClassId} {P : List Int32} {h : Heap} {locs : List Loc} {T0 : State} (hR : ((P, c0, [l0, l1, l2, l3]) : OwnT) ∈ own_R3) (hcs : cells ≤ 16) (hss : slots ≤ 128) (hN : Fr n0 locs) (E : Exa Z h ob "com/example/weftwork/weftwork/model/Components") (Fc : Fld Z h ob "com/example/weftwork/weftwork/model/Components" "count" "I" (.int c0)) (VL : Arv Z h lab kl .int (4 : Int32) [(.int l0), (.int l1), (.int l2), (.int l3)] (.int 0)) (X0 : Stand p l e room_1 s m args below meth c T0 locs cells slots) (e0 : T0.heap = h) :
    Ends p.tables e below (OwnFin s (fun v h L => v = some (.int 1) ∧ Fr n0 L) room_1.cells room_1.slots) (T0.setTop (mkF m 104 #[.val (.int x0), .val (.int x1), .val (.int x2), .val (.int x3), .val (.int (3 : Int32)), .val (.int kk), .val (.ref lab), .val (.ref ob), .unset] [])) := by
  refine own_iload X0 hx hby at_104 rfl rfl ?_
  refine own_iconst X0 hx hby at_106 rfl (1 : Int32) rfl ?_
  refine own_icmp_le X0 hx hby at_107 (pcY := 161) (pcN := 110) (by decide) rfl (fun (hc241 : 3 ≤ 1) => False.elim (by exact absurd hc241 (by decide))) (fun (hc241 : 1 < 3) => ?_)
  refine own_iload X0 hx hby at_110 rfl rfl ?_
  refine own_iconst X0 hx hby at_112 rfl (2 : Int32) rfl ?_
  refine own_icmp_lt X0 hx hby at_113 (pcY := 127) (pcN := 116) (by decide) rfl (fun (hc242 : 3 < 2) => False.elim (by exact absurd hc242 (by decide))) (fun (hc242 : 2 ≤ 3) => ?_)
  refine own_aload X0 hx hby at_116 rfl rfl rfl ?_
  refine own_iconst X0 hx hby at_118 rfl (1 : Int32) rfl ?_
  refine own_iaload X0 hx hby hZ l1 e0 VL (by decide) rfl at_119 rfl ?_
  refine own_aload X0 hx hby at_120 rfl rfl rfl ?_
  refine own_iconst X0 hx hby at_122 rfl (0 : Int32) rfl ?_
  refine own_iaload X0 hx hby hZ l0 e0 VL (by decide) rfl at_123 rfl ?_
  refine own_icmp_ne X0 hx hby at_124 (pcY := 165) (pcN := 127) (by decide) rfl (fun (hc243 : ¬ l1 = l0) => ?_) (fun (hc243 : l1 = l0) => ?_)
  · -- pc 124: t
    refine own_iconst X0 hx hby at_165 rfl (0 : Int32) rfl ?_
    refine own_istore X0 hx hby at_166 rfl #[.val (.int x0), .val (.int x1), .val (.int x2), .val (.int x3), .val (.int (3 : Int32)), .val (.int kk), .val (.ref lab), .val (.ref ob), .val (.int (0 : Int32))] rfl ?_
    refine own_aload X0 hx hby at_168 rfl rfl rfl ?_
    refine own_virtual X0 hx hby hZ (Cn := "com/example/weftwork/weftwork/model/Components") (a := ob) (argsL := []) (rest := []) hown (hw _ tw_14) (hw _ tw_15) (hw _ tw_17) (hw _ tw_16) (hw _ tw_3) (hw _ tw_18) (by decide) (rm3 l Z a0 hw ob h Fc) E e0 (by rw [hml]; rfl) pd_3 rfl (by decide) (W := 0) (Nat.le_refl _) (by decide) (Nat.le_trans (Nat.add_le_add_right hcs _) (by decide)) (Nat.le_trans (Nat.add_le_add_right hss _) (by decide)) at_170 rfl rfl (fun v244 T244 L244 X244 hQ244 => ?_)
    obtain ⟨rfl, rfl, e244⟩ := hQ244
    show Ends p.tables e below _ (T244.setTop (mkF m 173 #[.val (.int x0), .val (.int x1), .val (.int x2), .val (.int x3), .val (.int (3 : Int32)), .val (.int kk), .val (.ref lab), .val (.ref ob), .val (.int (0 : Int32))] [(.int (own_wh c0))]))
    refine own_iload X244 hx hby at_173 rfl rfl ?_
    refine own_icmp_ne X244 hx hby at_175 (pcY := 182) (pcN := 178) (by decide) rfl (fun (hc245 : ¬ (own_wh c0) = (0 : Int32)) => False.elim (by have q : ¬ c0.toInt ≤ 1 := fun q => hc243 ((own_fin3 hR).mp q).1; exact hc245 (by rw [own_wh, if_pos (by omega)]))) (fun (hc245 : (own_wh c0) = (0 : Int32)) => ?_)
    refine own_iconst X244 hx hby at_178 rfl (1 : Int32) rfl ?_
    refine own_goto X244 hx hby at_179 (pc' := 183) (by decide) ?_
    refine own_ret X244 hx hby hret hlk at_183 (.int (1 : Int32)) rfl (Or.inl ⟨rfl, by simp, _, rfl⟩) (Nat.le_trans hcs (by decide)) (Nat.le_trans hss (by decide)) ?_
    exact ⟨rfl, (Fr.app hN (Fr.nil _))⟩
  · -- pc 124: f
    refine own_iload X0 hx hby at_127 rfl rfl ?_
    refine own_iconst X0 hx hby at_129 rfl (3 : Int32) rfl ?_
    refine own_icmp_lt X0 hx hby at_130 (pcY := 144) (pcN := 133) (by decide) rfl (fun (hc246 : 3 < 3) => False.elim (by exact absurd hc246 (by decide))) (fun (hc246 : 3 ≤ 3) => ?_)
    refine own_aload X0 hx hby at_133 rfl rfl rfl ?_
    refine own_iconst X0 hx hby at_135 rfl (2 : Int32) rfl ?_
    refine own_iaload X0 hx hby hZ l2 e0 VL (by decide) rfl at_136 rfl ?_
    refine own_aload X0 hx hby at_137 rfl rfl rfl ?_
    refine own_iconst X0 hx hby at_139 rfl (0 : Int32) rfl ?_
    refine own_iaload X0 hx hby hZ l0 e0 VL (by decide) rfl at_140 rfl ?_
    refine own_icmp_ne X0 hx hby at_141 (pcY := 165) (pcN := 144) (by decide) rfl (fun (hc247 : ¬ l2 = l0) => ?_) (fun (hc247 : l2 = l0) => ?_)
    · -- pc 141: t
      refine own_iconst X0 hx hby at_165 rfl (0 : Int32) rfl ?_
      refine own_istore X0 hx hby at_166 rfl #[.val (.int x0), .val (.int x1), .val (.int x2), .val (.int x3), .val (.int (3 : Int32)), .val (.int kk), .val (.ref lab), .val (.ref ob), .val (.int (0 : Int32))] rfl ?_
      refine own_aload X0 hx hby at_168 rfl rfl rfl ?_
      refine own_virtual X0 hx hby hZ (Cn := "com/example/weftwork/weftwork/model/Components") (a := ob) (argsL := []) (rest := []) hown (hw _ tw_14) (hw _ tw_15) (hw _ tw_17) (hw _ tw_16) (hw _ tw_3) (hw _ tw_18) (by decide) (rm3 l Z a0 hw ob h Fc) E e0 (by rw [hml]; rfl) pd_3 rfl (by decide) (W := 0) (Nat.le_refl _) (by decide) (Nat.le_trans (Nat.add_le_add_right hcs _) (by decide)) (Nat.le_trans (Nat.add_le_add_right hss _) (by decide)) at_170 rfl rfl (fun v248 T248 L248 X248 hQ248 => ?_)
      obtain ⟨rfl, rfl, e248⟩ := hQ248
      show Ends p.tables e below _ (T248.setTop (mkF m 173 #[.val (.int x0), .val (.int x1), .val (.int x2), .val (.int x3), .val (.int (3 : Int32)), .val (.int kk), .val (.ref lab), .val (.ref ob), .val (.int (0 : Int32))] [(.int (own_wh c0))]))
      refine own_iload X248 hx hby at_173 rfl rfl ?_
      refine own_icmp_ne X248 hx hby at_175 (pcY := 182) (pcN := 178) (by decide) rfl (fun (hc249 : ¬ (own_wh c0) = (0 : Int32)) => False.elim (by have q : ¬ c0.toInt ≤ 1 := fun q => hc247 ((own_fin3 hR).mp q).2; exact hc249 (by rw [own_wh, if_pos (by omega)]))) (fun (hc249 : (own_wh c0) = (0 : Int32)) => ?_)
      refine own_iconst X248 hx hby at_178 rfl (1 : Int32) rfl ?_
      refine own_goto X248 hx hby at_179 (pc' := 183) (by decide) ?_
      refine own_ret X248 hx hby hret hlk at_183 (.int (1 : Int32)) rfl (Or.inl ⟨rfl, by simp, _, rfl⟩) (Nat.le_trans hcs (by decide)) (Nat.le_trans hss (by decide)) ?_
      exact ⟨rfl, (Fr.app hN (Fr.nil _))⟩
    · -- pc 141: f
      refine own_iload X0 hx hby at_144 rfl rfl ?_
      refine own_iconst X0 hx hby at_146 rfl (4 : Int32) rfl ?_
      refine own_icmp_lt X0 hx hby at_147 (pcY := 161) (pcN := 150) (by decide) rfl (fun (hc250 : 3 < 4) => ?_) (fun (hc250 : 4 ≤ 3) => False.elim (by exact absurd hc250 (by decide)))
      refine own_iconst X0 hx hby at_161 rfl (1 : Int32) rfl ?_
      refine own_goto X0 hx hby at_162 (pc' := 166) (by decide) ?_
      refine own_istore X0 hx hby at_166 rfl #[.val (.int x0), .val (.int x1), .val (.int x2), .val (.int x3), .val (.int (3 : Int32)), .val (.int kk), .val (.ref lab), .val (.ref ob), .val (.int (1 : Int32))] rfl ?_
      refine own_aload X0 hx hby at_168 rfl rfl rfl ?_
      refine own_virtual X0 hx hby hZ (Cn := "com/example/weftwork/weftwork/model/Components") (a := ob) (argsL := []) (rest := []) hown (hw _ tw_14) (hw _ tw_15) (hw _ tw_17) (hw _ tw_16) (hw _ tw_3) (hw _ tw_18) (by decide) (rm3 l Z a0 hw ob h Fc) E e0 (by rw [hml]; rfl) pd_3 rfl (by decide) (W := 0) (Nat.le_refl _) (by decide) (Nat.le_trans (Nat.add_le_add_right hcs _) (by decide)) (Nat.le_trans (Nat.add_le_add_right hss _) (by decide)) at_170 rfl rfl (fun v251 T251 L251 X251 hQ251 => ?_)
      obtain ⟨rfl, rfl, e251⟩ := hQ251
      show Ends p.tables e below _ (T251.setTop (mkF m 173 #[.val (.int x0), .val (.int x1), .val (.int x2), .val (.int x3), .val (.int (3 : Int32)), .val (.int kk), .val (.ref lab), .val (.ref ob), .val (.int (1 : Int32))] [(.int (own_wh c0))]))
      refine own_iload X251 hx hby at_173 rfl rfl ?_
      refine own_icmp_ne X251 hx hby at_175 (pcY := 182) (pcN := 178) (by decide) rfl (fun (hc252 : ¬ (own_wh c0) = (1 : Int32)) => False.elim (by have q := (own_fin3 hR).mpr ⟨hc243, hc247⟩; exact hc252 (by rw [own_wh, if_neg (by omega)]))) (fun (hc252 : (own_wh c0) = (1 : Int32)) => ?_)
      refine own_iconst X251 hx hby at_178 rfl (1 : Int32) rfl ?_
      refine own_goto X251 hx hby at_179 (pc' := 183) (by decide) ?_
      refine own_ret X251 hx hby hret hlk at_183 (.int (1 : Int32)) rfl (Or.inl ⟨rfl, by simp, _, rfl⟩) (Nat.le_trans hcs (by decide)) (Nat.le_trans hss (by decide)) ?_
      exact ⟨rfl, (Fr.app hN (Fr.nil _))⟩
set_option maxRecDepth 65536 in
set_option maxHeartbeats 40000000 in
theorem tail4 {p : Program} {l : Launch} {e : Env} {s : State} {m : MethodId} {args : Array Value} {below : List Frame} {meth : Method} {c : Code} {Z : State} {a0 : Array Value} (hx : p.tables.exec = Jvm.exec) (hby : c.code = code) (hml : c.maxLocals = 9) (hown : s.vm.findClass "com/example/weftwork/weftwork/model/ComponentsWholePinLaw" = some m.cls) (hret : meth.sig.returnType = ret) (hlk : meth.locks = false) (hZ : Z.Warmed39 s.vm) (hw : ∀ d ∈ tables_1, d.before a0 Z = true) {cells slots n0 : Nat} {x0 x1 x2 x3 kk c0 l0 l1 l2 l3 : Int32} {ob lab : Addr} {kl : ClassId} {P : List Int32} {h : Heap} {locs : List Loc} {T0 : State} (hR : ((P, c0, [l0, l1, l2, l3]) : OwnT) ∈ own_R4) (hcs : cells ≤ 16) (hss : slots ≤ 128) (hN : Fr n0 locs) (E : Exa Z h ob "com/example/weftwork/weftwork/model/Components") (Fc : Fld Z h ob "com/example/weftwork/weftwork/model/Components" "count" "I" (.int c0)) (VL : Arv Z h lab kl .int (4 : Int32) [(.int l0), (.int l1), (.int l2), (.int l3)] (.int 0)) (X0 : Stand p l e room_1 s m args below meth c T0 locs cells slots) (e0 : T0.heap = h) :
    Ends p.tables e below (OwnFin s (fun v h L => v = some (.int 1) ∧ Fr n0 L) room_1.cells room_1.slots) (T0.setTop (mkF m 104 #[.val (.int x0), .val (.int x1), .val (.int x2), .val (.int x3), .val (.int (4 : Int32)), .val (.int kk), .val (.ref lab), .val (.ref ob), .unset] [])) := by
  refine own_iload X0 hx hby at_104 rfl rfl ?_
  refine own_iconst X0 hx hby at_106 rfl (1 : Int32) rfl ?_
  refine own_icmp_le X0 hx hby at_107 (pcY := 161) (pcN := 110) (by decide) rfl (fun (hc253 : 4 ≤ 1) => False.elim (by exact absurd hc253 (by decide))) (fun (hc253 : 1 < 4) => ?_)
  refine own_iload X0 hx hby at_110 rfl rfl ?_
  refine own_iconst X0 hx hby at_112 rfl (2 : Int32) rfl ?_
  refine own_icmp_lt X0 hx hby at_113 (pcY := 127) (pcN := 116) (by decide) rfl (fun (hc254 : 4 < 2) => False.elim (by exact absurd hc254 (by decide))) (fun (hc254 : 2 ≤ 4) => ?_)
  refine own_aload X0 hx hby at_116 rfl rfl rfl ?_
  refine own_iconst X0 hx hby at_118 rfl (1 : Int32) rfl ?_
  refine own_iaload X0 hx hby hZ l1 e0 VL (by decide) rfl at_119 rfl ?_
  refine own_aload X0 hx hby at_120 rfl rfl rfl ?_
  refine own_iconst X0 hx hby at_122 rfl (0 : Int32) rfl ?_
  refine own_iaload X0 hx hby hZ l0 e0 VL (by decide) rfl at_123 rfl ?_
  refine own_icmp_ne X0 hx hby at_124 (pcY := 165) (pcN := 127) (by decide) rfl (fun (hc255 : ¬ l1 = l0) => ?_) (fun (hc255 : l1 = l0) => ?_)
  · -- pc 124: t
    refine own_iconst X0 hx hby at_165 rfl (0 : Int32) rfl ?_
    refine own_istore X0 hx hby at_166 rfl #[.val (.int x0), .val (.int x1), .val (.int x2), .val (.int x3), .val (.int (4 : Int32)), .val (.int kk), .val (.ref lab), .val (.ref ob), .val (.int (0 : Int32))] rfl ?_
    refine own_aload X0 hx hby at_168 rfl rfl rfl ?_
    refine own_virtual X0 hx hby hZ (Cn := "com/example/weftwork/weftwork/model/Components") (a := ob) (argsL := []) (rest := []) hown (hw _ tw_14) (hw _ tw_15) (hw _ tw_17) (hw _ tw_16) (hw _ tw_3) (hw _ tw_18) (by decide) (rm3 l Z a0 hw ob h Fc) E e0 (by rw [hml]; rfl) pd_3 rfl (by decide) (W := 0) (Nat.le_refl _) (by decide) (Nat.le_trans (Nat.add_le_add_right hcs _) (by decide)) (Nat.le_trans (Nat.add_le_add_right hss _) (by decide)) at_170 rfl rfl (fun v256 T256 L256 X256 hQ256 => ?_)
    obtain ⟨rfl, rfl, e256⟩ := hQ256
    show Ends p.tables e below _ (T256.setTop (mkF m 173 #[.val (.int x0), .val (.int x1), .val (.int x2), .val (.int x3), .val (.int (4 : Int32)), .val (.int kk), .val (.ref lab), .val (.ref ob), .val (.int (0 : Int32))] [(.int (own_wh c0))]))
    refine own_iload X256 hx hby at_173 rfl rfl ?_
    refine own_icmp_ne X256 hx hby at_175 (pcY := 182) (pcN := 178) (by decide) rfl (fun (hc257 : ¬ (own_wh c0) = (0 : Int32)) => False.elim (by have q : ¬ c0.toInt ≤ 1 := fun q => hc255 ((own_fin4 hR).mp q).1; exact hc257 (by rw [own_wh, if_pos (by omega)]))) (fun (hc257 : (own_wh c0) = (0 : Int32)) => ?_)
    refine own_iconst X256 hx hby at_178 rfl (1 : Int32) rfl ?_
    refine own_goto X256 hx hby at_179 (pc' := 183) (by decide) ?_
    refine own_ret X256 hx hby hret hlk at_183 (.int (1 : Int32)) rfl (Or.inl ⟨rfl, by simp, _, rfl⟩) (Nat.le_trans hcs (by decide)) (Nat.le_trans hss (by decide)) ?_
    exact ⟨rfl, (Fr.app hN (Fr.nil _))⟩
  · -- pc 124: f
    refine own_iload X0 hx hby at_127 rfl rfl ?_
    refine own_iconst X0 hx hby at_129 rfl (3 : Int32) rfl ?_
    refine own_icmp_lt X0 hx hby at_130 (pcY := 144) (pcN := 133) (by decide) rfl (fun (hc258 : 4 < 3) => False.elim (by exact absurd hc258 (by decide))) (fun (hc258 : 3 ≤ 4) => ?_)
    refine own_aload X0 hx hby at_133 rfl rfl rfl ?_
    refine own_iconst X0 hx hby at_135 rfl (2 : Int32) rfl ?_
    refine own_iaload X0 hx hby hZ l2 e0 VL (by decide) rfl at_136 rfl ?_
    refine own_aload X0 hx hby at_137 rfl rfl rfl ?_
    refine own_iconst X0 hx hby at_139 rfl (0 : Int32) rfl ?_
    refine own_iaload X0 hx hby hZ l0 e0 VL (by decide) rfl at_140 rfl ?_
    refine own_icmp_ne X0 hx hby at_141 (pcY := 165) (pcN := 144) (by decide) rfl (fun (hc259 : ¬ l2 = l0) => ?_) (fun (hc259 : l2 = l0) => ?_)
    · -- pc 141: t
      refine own_iconst X0 hx hby at_165 rfl (0 : Int32) rfl ?_
      refine own_istore X0 hx hby at_166 rfl #[.val (.int x0), .val (.int x1), .val (.int x2), .val (.int x3), .val (.int (4 : Int32)), .val (.int kk), .val (.ref lab), .val (.ref ob), .val (.int (0 : Int32))] rfl ?_
      refine own_aload X0 hx hby at_168 rfl rfl rfl ?_
      refine own_virtual X0 hx hby hZ (Cn := "com/example/weftwork/weftwork/model/Components") (a := ob) (argsL := []) (rest := []) hown (hw _ tw_14) (hw _ tw_15) (hw _ tw_17) (hw _ tw_16) (hw _ tw_3) (hw _ tw_18) (by decide) (rm3 l Z a0 hw ob h Fc) E e0 (by rw [hml]; rfl) pd_3 rfl (by decide) (W := 0) (Nat.le_refl _) (by decide) (Nat.le_trans (Nat.add_le_add_right hcs _) (by decide)) (Nat.le_trans (Nat.add_le_add_right hss _) (by decide)) at_170 rfl rfl (fun v260 T260 L260 X260 hQ260 => ?_)
      obtain ⟨rfl, rfl, e260⟩ := hQ260
      show Ends p.tables e below _ (T260.setTop (mkF m 173 #[.val (.int x0), .val (.int x1), .val (.int x2), .val (.int x3), .val (.int (4 : Int32)), .val (.int kk), .val (.ref lab), .val (.ref ob), .val (.int (0 : Int32))] [(.int (own_wh c0))]))
      refine own_iload X260 hx hby at_173 rfl rfl ?_
      refine own_icmp_ne X260 hx hby at_175 (pcY := 182) (pcN := 178) (by decide) rfl (fun (hc261 : ¬ (own_wh c0) = (0 : Int32)) => False.elim (by have q : ¬ c0.toInt ≤ 1 := fun q => hc259 ((own_fin4 hR).mp q).2.1; exact hc261 (by rw [own_wh, if_pos (by omega)]))) (fun (hc261 : (own_wh c0) = (0 : Int32)) => ?_)
      refine own_iconst X260 hx hby at_178 rfl (1 : Int32) rfl ?_
      refine own_goto X260 hx hby at_179 (pc' := 183) (by decide) ?_
      refine own_ret X260 hx hby hret hlk at_183 (.int (1 : Int32)) rfl (Or.inl ⟨rfl, by simp, _, rfl⟩) (Nat.le_trans hcs (by decide)) (Nat.le_trans hss (by decide)) ?_
      exact ⟨rfl, (Fr.app hN (Fr.nil _))⟩
    · -- pc 141: f
      refine own_iload X0 hx hby at_144 rfl rfl ?_
      refine own_iconst X0 hx hby at_146 rfl (4 : Int32) rfl ?_
      refine own_icmp_lt X0 hx hby at_147 (pcY := 161) (pcN := 150) (by decide) rfl (fun (hc262 : 4 < 4) => False.elim (by exact absurd hc262 (by decide))) (fun (hc262 : 4 ≤ 4) => ?_)
      refine own_aload X0 hx hby at_150 rfl rfl rfl ?_
      refine own_iconst X0 hx hby at_152 rfl (3 : Int32) rfl ?_
      refine own_iaload X0 hx hby hZ l3 e0 VL (by decide) rfl at_153 rfl ?_
      refine own_aload X0 hx hby at_154 rfl rfl rfl ?_
      refine own_iconst X0 hx hby at_156 rfl (0 : Int32) rfl ?_
      refine own_iaload X0 hx hby hZ l0 e0 VL (by decide) rfl at_157 rfl ?_
      refine own_icmp_ne X0 hx hby at_158 (pcY := 165) (pcN := 161) (by decide) rfl (fun (hc263 : ¬ l3 = l0) => ?_) (fun (hc263 : l3 = l0) => ?_)
      · -- pc 158: t
        refine own_iconst X0 hx hby at_165 rfl (0 : Int32) rfl ?_
        refine own_istore X0 hx hby at_166 rfl #[.val (.int x0), .val (.int x1), .val (.int x2), .val (.int x3), .val (.int (4 : Int32)), .val (.int kk), .val (.ref lab), .val (.ref ob), .val (.int (0 : Int32))] rfl ?_
        refine own_aload X0 hx hby at_168 rfl rfl rfl ?_
        refine own_virtual X0 hx hby hZ (Cn := "com/example/weftwork/weftwork/model/Components") (a := ob) (argsL := []) (rest := []) hown (hw _ tw_14) (hw _ tw_15) (hw _ tw_17) (hw _ tw_16) (hw _ tw_3) (hw _ tw_18) (by decide) (rm3 l Z a0 hw ob h Fc) E e0 (by rw [hml]; rfl) pd_3 rfl (by decide) (W := 0) (Nat.le_refl _) (by decide) (Nat.le_trans (Nat.add_le_add_right hcs _) (by decide)) (Nat.le_trans (Nat.add_le_add_right hss _) (by decide)) at_170 rfl rfl (fun v264 T264 L264 X264 hQ264 => ?_)
        obtain ⟨rfl, rfl, e264⟩ := hQ264
        show Ends p.tables e below _ (T264.setTop (mkF m 173 #[.val (.int x0), .val (.int x1), .val (.int x2), .val (.int x3), .val (.int (4 : Int32)), .val (.int kk), .val (.ref lab), .val (.ref ob), .val (.int (0 : Int32))] [(.int (own_wh c0))]))
        refine own_iload X264 hx hby at_173 rfl rfl ?_
        refine own_icmp_ne X264 hx hby at_175 (pcY := 182) (pcN := 178) (by decide) rfl (fun (hc265 : ¬ (own_wh c0) = (0 : Int32)) => False.elim (by have q : ¬ c0.toInt ≤ 1 := fun q => hc263 ((own_fin4 hR).mp q).2.2; exact hc265 (by rw [own_wh, if_pos (by omega)]))) (fun (hc265 : (own_wh c0) = (0 : Int32)) => ?_)
        refine own_iconst X264 hx hby at_178 rfl (1 : Int32) rfl ?_
        refine own_goto X264 hx hby at_179 (pc' := 183) (by decide) ?_
        refine own_ret X264 hx hby hret hlk at_183 (.int (1 : Int32)) rfl (Or.inl ⟨rfl, by simp, _, rfl⟩) (Nat.le_trans hcs (by decide)) (Nat.le_trans hss (by decide)) ?_
        exact ⟨rfl, (Fr.app hN (Fr.nil _))⟩
      · -- pc 158: f
        refine own_iconst X0 hx hby at_161 rfl (1 : Int32) rfl ?_
        refine own_goto X0 hx hby at_162 (pc' := 166) (by decide) ?_
        refine own_istore X0 hx hby at_166 rfl #[.val (.int x0), .val (.int x1), .val (.int x2), .val (.int x3), .val (.int (4 : Int32)), .val (.int kk), .val (.ref lab), .val (.ref ob), .val (.int (1 : Int32))] rfl ?_
        refine own_aload X0 hx hby at_168 rfl rfl rfl ?_
        refine own_virtual X0 hx hby hZ (Cn := "com/example/weftwork/weftwork/model/Components") (a := ob) (argsL := []) (rest := []) hown (hw _ tw_14) (hw _ tw_15) (hw _ tw_17) (hw _ tw_16) (hw _ tw_3) (hw _ tw_18) (by decide) (rm3 l Z a0 hw ob h Fc) E e0 (by rw [hml]; rfl) pd_3 rfl (by decide) (W := 0) (Nat.le_refl _) (by decide) (Nat.le_trans (Nat.add_le_add_right hcs _) (by decide)) (Nat.le_trans (Nat.add_le_add_right hss _) (by decide)) at_170 rfl rfl (fun v266 T266 L266 X266 hQ266 => ?_)
        obtain ⟨rfl, rfl, e266⟩ := hQ266
        show Ends p.tables e below _ (T266.setTop (mkF m 173 #[.val (.int x0), .val (.int x1), .val (.int x2), .val (.int x3), .val (.int (4 : Int32)), .val (.int kk), .val (.ref lab), .val (.ref ob), .val (.int (1 : Int32))] [(.int (own_wh c0))]))
        refine own_iload X266 hx hby at_173 rfl rfl ?_
        refine own_icmp_ne X266 hx hby at_175 (pcY := 182) (pcN := 178) (by decide) rfl (fun (hc267 : ¬ (own_wh c0) = (1 : Int32)) => False.elim (by have q := (own_fin4 hR).mpr ⟨hc255, hc259, hc263⟩; exact hc267 (by rw [own_wh, if_neg (by omega)]))) (fun (hc267 : (own_wh c0) = (1 : Int32)) => ?_)
        refine own_iconst X266 hx hby at_178 rfl (1 : Int32) rfl ?_
        refine own_goto X266 hx hby at_179 (pc' := 183) (by decide) ?_
        refine own_ret X266 hx hby hret hlk at_183 (.int (1 : Int32)) rfl (Or.inl ⟨rfl, by simp, _, rfl⟩) (Nat.le_trans hcs (by decide)) (Nat.le_trans hss (by decide)) ?_
        exact ⟨rfl, (Fr.app hN (Fr.nil _))⟩
set_option maxRecDepth 65536 in
set_option maxHeartbeats 40000000 in
theorem rm0 (l : Launch) (Z : State) (a0 : Array Value) (hw : ∀ d ∈ tables_1, d.before a0 Z = true) (x0 : Int32) (x1 : Int32) (x2 : Int32) (x3 : Int32) (h0 : Heap) (n0 : Nat) (O : Old Z n0 h0) :
    OwnMet l Z x code maxLocals ret tables_1 room_1 #[(.int x0), (.int x1), (.int x2), (.int x3)] h0 (fun v h L => v = some (.int 1) ∧ Fr n0 L) := by
  refine own_body (plainFor_of_name pn_1) (fun m => ef_0 m x0 x1 x2 x3) ?_
  intro p e s m below meth c s₁ X0 hx hby hml hown hnm hret hlk hZ e0
  replace hown : s.vm.findClass "com/example/weftwork/weftwork/model/ComponentsWholePinLaw" = some m.cls := hown
  replace hml : c.maxLocals = 9 := hml
  have N0 := Fr.nil n0
  show Ends p.tables e below _ (s₁.setTop (mkF m 0 #[.val (.int x0), .val (.int x1), .val (.int x2), .val (.int x3), .unset, .unset, .unset, .unset, .unset] []))
  refine own_iloadN X0 hx hby at_0 rfl rfl ?_
  refine own_bipush X0 hx hby at_1 rfl (15 : Int32) rfl ?_
  refine own_iand X0 hx hby at_3 rfl ?_
  refine own_iconst X0 hx hby at_4 rfl (5 : Int32) rfl ?_
  refine own_irem X0 hx hby at_5 rfl (by decide) ?_
  refine own_istore X0 hx hby at_6 rfl #[.val (.int x0), .val (.int x1), .val (.int x2), .val (.int x3), .val (.int ((x0 &&& (15 : Int32)) % (5 : Int32))), .unset, .unset, .unset, .unset] rfl ?_
  rcases own_n5 x0 with hz | hz | hz | hz | hz
  · -- n = 0
    rw [hz]
    show Ends p.tables e below _ (s₁.setTop (mkF m 8 #[.val (.int x0), .val (.int x1), .val (.int x2), .val (.int x3), .val (.int (0 : Int32)), .unset, .unset, .unset, .unset] []))
    refine own_iload X0 hx hby at_8 rfl rfl ?_
    refine own_if_ne X0 hx hby at_10 (pcY := 17) (pcN := 13) (by decide) rfl (fun (hc268 : ¬ (0 : Int32) = (0 : Int32)) => False.elim (by exact absurd hc268 (by decide))) (fun (hc268 : (0 : Int32) = (0 : Int32)) => ?_)
    refine own_iconst X0 hx hby at_13 rfl (0 : Int32) rfl ?_
    refine own_goto X0 hx hby at_14 (pc' := 22) (by decide) ?_
    refine own_istore X0 hx hby at_22 rfl #[.val (.int x0), .val (.int x1), .val (.int x2), .val (.int x3), .val (.int (0 : Int32)), .val (.int (0 : Int32)), .unset, .unset, .unset] rfl ?_
    refine own_iconst X0 hx hby at_24 rfl (4 : Int32) rfl ?_
    refine own_newarray X0 hx hby hZ (aty := .int) (hw _ tw_0) e0 (by decide) 4 (by decide) (by decide) (by decide) (by decide) .int rfl [(.int (0 : Int32)), (.int (0 : Int32)), (.int (0 : Int32)), (.int (0 : Int32))] rfl at_25 rfl (fun T269 h269 b269 k269 X269 e269 g269 E269 V269 => ?_)
    have ge_b269 : n0 ≤ b269 := own_ge O g269
    refine own_dup X269 hx hby at_27 rfl rfl ?_
    refine own_iconst X269 hx hby at_28 rfl (0 : Int32) rfl ?_
    refine own_iconst X269 hx hby at_29 rfl (0 : Int32) rfl ?_
    refine own_iastore X269 hx hby hZ (0 : Int32) rfl e269 V269 (by decide) 0 rfl (show 0 < 4 by decide) [(.int (0 : Int32)), (.int (0 : Int32)), (.int (0 : Int32)), (.int (0 : Int32))] rfl rfl N0 ge_b269 at_30 rfl (fun T270 h270 L270 X270 e270 W270 V270 N270 => ?_)
    refine own_dup X270 hx hby at_31 rfl rfl ?_
    refine own_iconst X270 hx hby at_32 rfl (1 : Int32) rfl ?_
    refine own_iconst X270 hx hby at_33 rfl (1 : Int32) rfl ?_
    refine own_iastore X270 hx hby hZ (1 : Int32) rfl e270 V270 (by decide) 1 rfl (show 1 < 4 by decide) [(.int (0 : Int32)), (.int (1 : Int32)), (.int (0 : Int32)), (.int (0 : Int32))] rfl rfl N270 ge_b269 at_34 rfl (fun T271 h271 L271 X271 e271 W271 V271 N271 => ?_)
    refine own_dup X271 hx hby at_35 rfl rfl ?_
    refine own_iconst X271 hx hby at_36 rfl (2 : Int32) rfl ?_
    refine own_iconst X271 hx hby at_37 rfl (2 : Int32) rfl ?_
    refine own_iastore X271 hx hby hZ (2 : Int32) rfl e271 V271 (by decide) 2 rfl (show 2 < 4 by decide) [(.int (0 : Int32)), (.int (1 : Int32)), (.int (2 : Int32)), (.int (0 : Int32))] rfl rfl N271 ge_b269 at_38 rfl (fun T272 h272 L272 X272 e272 W272 V272 N272 => ?_)
    refine own_dup X272 hx hby at_39 rfl rfl ?_
    refine own_iconst X272 hx hby at_40 rfl (3 : Int32) rfl ?_
    refine own_iconst X272 hx hby at_41 rfl (3 : Int32) rfl ?_
    refine own_iastore X272 hx hby hZ (3 : Int32) rfl e272 V272 (by decide) 3 rfl (show 3 < 4 by decide) [(.int (0 : Int32)), (.int (1 : Int32)), (.int (2 : Int32)), (.int (3 : Int32))] rfl rfl N272 ge_b269 at_42 rfl (fun T273 h273 L273 X273 e273 W273 V273 N273 => ?_)
    refine own_astore X273 hx hby at_43 rfl #[.val (.int x0), .val (.int x1), .val (.int x2), .val (.int x3), .val (.int (0 : Int32)), .val (.int (0 : Int32)), .val (.ref b269), .unset, .unset] rfl rfl ?_
    have f275 := (((((O.ext E269).wr W270 ge_b269).wr W271 ge_b269).wr W272 ge_b269).wr W273 ge_b269)
    refine own_new X273 hx hby hZ hown (hw _ tw_1) (hw _ tw_2) (hw _ tw_3) e273 (by decide) (by decide) at_45 rfl (fun T274 h274 b274 X274 e274 g274 E274 A274 D274 => ?_)
    have ge_b274 : n0 ≤ b274 := own_ge f275 g274
    have ne_b269_b274 : b269 ≠ b274 := own_lt V273.lt g274
    have F274_parent : Fld Z h274 b274 "com/example/weftwork/weftwork/model/Components" "parent" "[I" .null := D274 (Or.inr (hw _ tw_11)) (ty := (.array .int)) (by decide)
    have F274_count : Fld Z h274 b274 "com/example/weftwork/weftwork/model/Components" "count" "I" (.int (0 : Int32)) := D274 (Or.inl (hw _ tw_13)) (ty := .int) (by decide)
    refine own_dup X274 hx hby at_48 rfl rfl ?_
    refine own_iload X274 hx hby at_49 rfl rfl ?_
    have f277 := (V273.ext E274)
    have f278 := (f275.ext E274)
    refine own_special X274 hx hby hZ (a := b274) (argsL := [(.int (0 : Int32))]) (rest := [(.ref b274)]) hown rfl (hw _ tw_4) (hw _ tw_5) (hw _ tw_3) (hw _ tw_6) (by decide) (rm1_0 l Z a0 hw b274 h274 n0 f278 ge_b274 A274 F274_parent F274_count) e274 (by rw [hml]; rfl) pd_4 rfl (by decide) (W := 1) (Nat.le_refl _) (by decide) (by decide) (by decide) at_51 rfl rfl (fun v276 T276 L276 X276 hQ276 => ?_)
    obtain ⟨rfl, N276q, K276, pa276, kp276, Fp276, sq276, gq276, Fn276, V276⟩ := hQ276
    show Ends p.tables e below _ (T276.setTop (mkF m 54 #[.val (.int x0), .val (.int x1), .val (.int x2), .val (.int x3), .val (.int (0 : Int32)), .val (.int (0 : Int32)), .val (.ref b269), .unset, .unset] [(.ref b274)]))
    refine own_astore X276 hx hby at_54 rfl #[.val (.int x0), .val (.int x1), .val (.int x2), .val (.int x3), .val (.int (0 : Int32)), .val (.int (0 : Int32)), .val (.ref b269), .val (.ref b274), .unset] rfl rfl ?_
    refine own_iload X276 hx hby at_56 rfl rfl ?_
    refine own_iconst X276 hx hby at_58 rfl (1 : Int32) rfl ?_
    refine own_icmp_lt X276 hx hby at_59 (pcY := 72) (pcN := 62) (by decide) rfl (fun (hc279 : 0 < 1) => ?_) (fun (hc279 : 1 ≤ 0) => False.elim (by exact absurd hc279 (by decide)))
    refine own_iload X276 hx hby at_72 rfl rfl ?_
    refine own_iconst X276 hx hby at_74 rfl (2 : Int32) rfl ?_
    refine own_icmp_lt X276 hx hby at_75 (pcY := 88) (pcN := 78) (by decide) rfl (fun (hc280 : 0 < 2) => ?_) (fun (hc280 : 2 ≤ 0) => False.elim (by exact absurd hc280 (by decide)))
    refine own_iload X276 hx hby at_88 rfl rfl ?_
    refine own_iconst X276 hx hby at_90 rfl (3 : Int32) rfl ?_
    refine own_icmp_lt X276 hx hby at_91 (pcY := 104) (pcN := 94) (by decide) rfl (fun (hc281 : 0 < 3) => ?_) (fun (hc281 : 3 ≤ 0) => False.elim (by exact absurd hc281 (by decide)))
    refine own_iload X276 hx hby at_104 rfl rfl ?_
    refine own_iconst X276 hx hby at_106 rfl (1 : Int32) rfl ?_
    refine own_icmp_le X276 hx hby at_107 (pcY := 161) (pcN := 110) (by decide) rfl (fun (hc282 : 0 ≤ 1) => ?_) (fun (hc282 : 1 < 0) => False.elim (by exact absurd hc282 (by decide)))
    refine own_iconst X276 hx hby at_161 rfl (1 : Int32) rfl ?_
    refine own_goto X276 hx hby at_162 (pc' := 166) (by decide) ?_
    refine own_istore X276 hx hby at_166 rfl #[.val (.int x0), .val (.int x1), .val (.int x2), .val (.int x3), .val (.int (0 : Int32)), .val (.int (0 : Int32)), .val (.ref b269), .val (.ref b274), .val (.int (1 : Int32))] rfl ?_
    refine own_aload X276 hx hby at_168 rfl rfl rfl ?_
    have f284 := (A274.keep K276)
    refine own_virtual X276 hx hby hZ (Cn := "com/example/weftwork/weftwork/model/Components") (a := b274) (argsL := []) (rest := []) hown (hw _ tw_14) (hw _ tw_15) (hw _ tw_17) (hw _ tw_16) (hw _ tw_3) (hw _ tw_18) (by decide) (rm3 l Z a0 hw b274 T276.heap Fn276) f284 rfl (by rw [hml]; rfl) pd_3 rfl (by decide) (W := 0) (Nat.le_refl _) (by decide) (by decide) (by decide) at_170 rfl rfl (fun v283 T283 L283 X283 hQ283 => ?_)
    obtain ⟨rfl, rfl, e283⟩ := hQ283
    show Ends p.tables e below _ (T283.setTop (mkF m 173 #[.val (.int x0), .val (.int x1), .val (.int x2), .val (.int x3), .val (.int (0 : Int32)), .val (.int (0 : Int32)), .val (.ref b269), .val (.ref b274), .val (.int (1 : Int32))] [(.int (own_wh (0 : Int32)))]))
    refine own_iload X283 hx hby at_173 rfl rfl ?_
    refine own_icmp_ne X283 hx hby at_175 (pcY := 182) (pcN := 178) (by decide) rfl (fun (hc285 : ¬ (own_wh (0 : Int32)) = (1 : Int32)) => False.elim (by exact hc285 rfl)) (fun (hc285 : (own_wh (0 : Int32)) = (1 : Int32)) => ?_)
    refine own_iconst X283 hx hby at_178 rfl (1 : Int32) rfl ?_
    refine own_goto X283 hx hby at_179 (pc' := 183) (by decide) ?_
    refine own_ret X283 hx hby hret hlk at_183 (.int (1 : Int32)) rfl (Or.inl ⟨rfl, by simp, _, rfl⟩) (by decide) (by decide) ?_
    exact ⟨rfl, (Fr.app (Fr.app N273 N276q) (Fr.nil _))⟩
  · -- n = 1
    rw [hz]
    show Ends p.tables e below _ (s₁.setTop (mkF m 8 #[.val (.int x0), .val (.int x1), .val (.int x2), .val (.int x3), .val (.int (1 : Int32)), .unset, .unset, .unset, .unset] []))
    refine own_iload X0 hx hby at_8 rfl rfl ?_
    refine own_if_ne X0 hx hby at_10 (pcY := 17) (pcN := 13) (by decide) rfl (fun (hc286 : ¬ (1 : Int32) = (0 : Int32)) => ?_) (fun (hc286 : (1 : Int32) = (0 : Int32)) => False.elim (by exact absurd hc286 (by decide)))
    refine own_iloadN X0 hx hby at_17 rfl rfl ?_
    refine own_iconst X0 hx hby at_18 rfl (4 : Int32) rfl ?_
    refine own_iushr X0 hx hby at_19 rfl ?_
    refine own_iconst X0 hx hby at_20 rfl (3 : Int32) rfl ?_
    refine own_iand X0 hx hby at_21 rfl ?_
    refine own_istore X0 hx hby at_22 rfl #[.val (.int x0), .val (.int x1), .val (.int x2), .val (.int x3), .val (.int (1 : Int32)), .val (.int (((x0.toUInt32 >>> ((4 : Int32) &&& 31).toUInt32).toInt32) &&& (3 : Int32))), .unset, .unset, .unset] rfl ?_
    refine own_iconst X0 hx hby at_24 rfl (4 : Int32) rfl ?_
    refine own_newarray X0 hx hby hZ (aty := .int) (hw _ tw_0) e0 (by decide) 4 (by decide) (by decide) (by decide) (by decide) .int rfl [(.int (0 : Int32)), (.int (0 : Int32)), (.int (0 : Int32)), (.int (0 : Int32))] rfl at_25 rfl (fun T287 h287 b287 k287 X287 e287 g287 E287 V287 => ?_)
    have ge_b287 : n0 ≤ b287 := own_ge O g287
    refine own_dup X287 hx hby at_27 rfl rfl ?_
    refine own_iconst X287 hx hby at_28 rfl (0 : Int32) rfl ?_
    refine own_iconst X287 hx hby at_29 rfl (0 : Int32) rfl ?_
    refine own_iastore X287 hx hby hZ (0 : Int32) rfl e287 V287 (by decide) 0 rfl (show 0 < 4 by decide) [(.int (0 : Int32)), (.int (0 : Int32)), (.int (0 : Int32)), (.int (0 : Int32))] rfl rfl N0 ge_b287 at_30 rfl (fun T288 h288 L288 X288 e288 W288 V288 N288 => ?_)
    refine own_dup X288 hx hby at_31 rfl rfl ?_
    refine own_iconst X288 hx hby at_32 rfl (1 : Int32) rfl ?_
    refine own_iconst X288 hx hby at_33 rfl (1 : Int32) rfl ?_
    refine own_iastore X288 hx hby hZ (1 : Int32) rfl e288 V288 (by decide) 1 rfl (show 1 < 4 by decide) [(.int (0 : Int32)), (.int (1 : Int32)), (.int (0 : Int32)), (.int (0 : Int32))] rfl rfl N288 ge_b287 at_34 rfl (fun T289 h289 L289 X289 e289 W289 V289 N289 => ?_)
    refine own_dup X289 hx hby at_35 rfl rfl ?_
    refine own_iconst X289 hx hby at_36 rfl (2 : Int32) rfl ?_
    refine own_iconst X289 hx hby at_37 rfl (2 : Int32) rfl ?_
    refine own_iastore X289 hx hby hZ (2 : Int32) rfl e289 V289 (by decide) 2 rfl (show 2 < 4 by decide) [(.int (0 : Int32)), (.int (1 : Int32)), (.int (2 : Int32)), (.int (0 : Int32))] rfl rfl N289 ge_b287 at_38 rfl (fun T290 h290 L290 X290 e290 W290 V290 N290 => ?_)
    refine own_dup X290 hx hby at_39 rfl rfl ?_
    refine own_iconst X290 hx hby at_40 rfl (3 : Int32) rfl ?_
    refine own_iconst X290 hx hby at_41 rfl (3 : Int32) rfl ?_
    refine own_iastore X290 hx hby hZ (3 : Int32) rfl e290 V290 (by decide) 3 rfl (show 3 < 4 by decide) [(.int (0 : Int32)), (.int (1 : Int32)), (.int (2 : Int32)), (.int (3 : Int32))] rfl rfl N290 ge_b287 at_42 rfl (fun T291 h291 L291 X291 e291 W291 V291 N291 => ?_)
    refine own_astore X291 hx hby at_43 rfl #[.val (.int x0), .val (.int x1), .val (.int x2), .val (.int x3), .val (.int (1 : Int32)), .val (.int (((x0.toUInt32 >>> ((4 : Int32) &&& 31).toUInt32).toInt32) &&& (3 : Int32))), .val (.ref b287), .unset, .unset] rfl rfl ?_
    have f293 := (((((O.ext E287).wr W288 ge_b287).wr W289 ge_b287).wr W290 ge_b287).wr W291 ge_b287)
    refine own_new X291 hx hby hZ hown (hw _ tw_1) (hw _ tw_2) (hw _ tw_3) e291 (by decide) (by decide) at_45 rfl (fun T292 h292 b292 X292 e292 g292 E292 A292 D292 => ?_)
    have ge_b292 : n0 ≤ b292 := own_ge f293 g292
    have ne_b287_b292 : b287 ≠ b292 := own_lt V291.lt g292
    have F292_parent : Fld Z h292 b292 "com/example/weftwork/weftwork/model/Components" "parent" "[I" .null := D292 (Or.inr (hw _ tw_11)) (ty := (.array .int)) (by decide)
    have F292_count : Fld Z h292 b292 "com/example/weftwork/weftwork/model/Components" "count" "I" (.int (0 : Int32)) := D292 (Or.inl (hw _ tw_13)) (ty := .int) (by decide)
    refine own_dup X292 hx hby at_48 rfl rfl ?_
    refine own_iload X292 hx hby at_49 rfl rfl ?_
    have f295 := (V291.ext E292)
    have f296 := (f293.ext E292)
    refine own_special X292 hx hby hZ (a := b292) (argsL := [(.int (1 : Int32))]) (rest := [(.ref b292)]) hown rfl (hw _ tw_4) (hw _ tw_5) (hw _ tw_3) (hw _ tw_6) (by decide) (rm1_1 l Z a0 hw b292 h292 n0 f296 ge_b292 A292 F292_parent F292_count) e292 (by rw [hml]; rfl) pd_4 rfl (by decide) (W := 1) (Nat.le_refl _) (by decide) (by decide) (by decide) at_51 rfl rfl (fun v294 T294 L294 X294 hQ294 => ?_)
    obtain ⟨rfl, N294q, K294, pa294, kp294, Fp294, sq294, gq294, Fn294, V294⟩ := hQ294
    show Ends p.tables e below _ (T294.setTop (mkF m 54 #[.val (.int x0), .val (.int x1), .val (.int x2), .val (.int x3), .val (.int (1 : Int32)), .val (.int (((x0.toUInt32 >>> ((4 : Int32) &&& 31).toUInt32).toInt32) &&& (3 : Int32))), .val (.ref b287), .unset, .unset] [(.ref b292)]))
    refine own_astore X294 hx hby at_54 rfl #[.val (.int x0), .val (.int x1), .val (.int x2), .val (.int x3), .val (.int (1 : Int32)), .val (.int (((x0.toUInt32 >>> ((4 : Int32) &&& 31).toUInt32).toInt32) &&& (3 : Int32))), .val (.ref b287), .val (.ref b292), .unset] rfl rfl ?_
    have hR0 : (([0], 1, [0, 1, 2, 3]) : OwnT) ∈ own_R1 := by decide +kernel
    refine own_iload X294 hx hby at_56 rfl rfl ?_
    refine own_iconst X294 hx hby at_58 rfl (1 : Int32) rfl ?_
    refine own_icmp_lt X294 hx hby at_59 (pcY := 72) (pcN := 62) (by decide) rfl (fun (hc297 : (((x0.toUInt32 >>> ((4 : Int32) &&& 31).toUInt32).toInt32) &&& (3 : Int32)).toInt < 1) => ?_) (fun (hc297 : 1 ≤ (((x0.toUInt32 >>> ((4 : Int32) &&& 31).toUInt32).toInt32) &&& (3 : Int32)).toInt) => ?_)
    · -- pc 59: t
      refine own_iload X294 hx hby at_72 rfl rfl ?_
      refine own_iconst X294 hx hby at_74 rfl (2 : Int32) rfl ?_
      refine own_icmp_lt X294 hx hby at_75 (pcY := 88) (pcN := 78) (by decide) rfl (fun (hc298 : (((x0.toUInt32 >>> ((4 : Int32) &&& 31).toUInt32).toInt32) &&& (3 : Int32)).toInt < 2) => ?_) (fun (hc298 : 2 ≤ (((x0.toUInt32 >>> ((4 : Int32) &&& 31).toUInt32).toInt32) &&& (3 : Int32)).toInt) => False.elim (by omega))
      refine own_iload X294 hx hby at_88 rfl rfl ?_
      refine own_iconst X294 hx hby at_90 rfl (3 : Int32) rfl ?_
      refine own_icmp_lt X294 hx hby at_91 (pcY := 104) (pcN := 94) (by decide) rfl (fun (hc299 : (((x0.toUInt32 >>> ((4 : Int32) &&& 31).toUInt32).toInt32) &&& (3 : Int32)).toInt < 3) => ?_) (fun (hc299 : 3 ≤ (((x0.toUInt32 >>> ((4 : Int32) &&& 31).toUInt32).toInt32) &&& (3 : Int32)).toInt) => False.elim (by omega))
      have f300 := (A292.keep K294)
      have f301 := (f295.keep K294 (ninS ne_b287_b292 nin0))
      exact tail1 hx hby hml hown hret hlk hZ hw hR0 (by decide) (by decide) (Fr.app N291 N294q) f300 Fn294 f301 X294 rfl
    · -- pc 59: f
      refine own_aload X294 hx hby at_62 rfl rfl rfl ?_
      refine own_aload X294 hx hby at_64 rfl rfl rfl ?_
      refine own_iloadN X294 hx hby at_66 rfl rfl ?_
      refine own_iload X294 hx hby at_67 rfl rfl ?_
      have f303 := (A292.keep K294)
      have f304 := (f295.keep K294 (ninS ne_b287_b292 nin0))
      refine own_static X294 hx hby hZ (argsL := [(.ref b292), (.ref b287), (.int x1), (.int (1 : Int32))]) (rest := []) hown (hw _ tw_19) (hw _ tw_20) (hw _ tw_21) (hw _ tw_22) (by decide) (rm4 l Z a0 hw b292 b287 x1 (1 : Int32) T294.heap n0 (P := [0]) own_ok1 (own_st1 _ hR0).1 (by decide) gq294 (Nat.ne_of_lt (Nat.lt_of_lt_of_le A292.lt sq294)) Fp294 V294 ge_b292 f303 Fn294 (by decide) ge_b287 (Ne.symm ne_b287_b292) (Ne.symm (Nat.ne_of_lt (Nat.lt_of_lt_of_le f295.lt sq294))) f304) rfl (by rw [hml]; rfl) pd_5 rfl (by decide) (W := 0) (Nat.le_refl _) (by decide) (by decide) (by decide) at_69 rfl rfl (fun v302 T302 L302 X302 hQ302 => ?_)
      obtain ⟨rfl, N302q, K302, Fp302, Fn302, V302, VL302⟩ := hQ302
      have hR302 := ((own_st1 _ hR0).2.2 _ (own_mem (own_rem x1 (1 : Int32) (by decide)).1 (own_rem x1 (1 : Int32) (by decide)).2) _ (own_mem (own_rem (x1.toUInt32 >>> ((8 : Int32) &&& 31).toUInt32).toInt32 (1 : Int32) (by decide)).1 (own_rem (x1.toUInt32 >>> ((8 : Int32) &&& 31).toUInt32).toInt32 (1 : Int32) (by decide)).2))
      dsimp only at hR302
      generalize own_jn _ _ _ = P302 at hR302 Fn302 V302
      generalize own_jc _ _ _ _ = c302 at hR302 Fn302
      generalize own_rl _ _ _ = ls302 at hR302 VL302
      obtain ⟨l0_302, l1_302, l2_302, l3_302, rfl⟩ := own_len4 (own_st1 _ hR302).2.1
      show Ends p.tables e below _ (T302.setTop (mkF m 72 #[.val (.int x0), .val (.int x1), .val (.int x2), .val (.int x3), .val (.int (1 : Int32)), .val (.int (((x0.toUInt32 >>> ((4 : Int32) &&& 31).toUInt32).toInt32) &&& (3 : Int32))), .val (.ref b287), .val (.ref b292), .unset] []))
      refine own_iload X302 hx hby at_72 rfl rfl ?_
      refine own_iconst X302 hx hby at_74 rfl (2 : Int32) rfl ?_
      refine own_icmp_lt X302 hx hby at_75 (pcY := 88) (pcN := 78) (by decide) rfl (fun (hc305 : (((x0.toUInt32 >>> ((4 : Int32) &&& 31).toUInt32).toInt32) &&& (3 : Int32)).toInt < 2) => ?_) (fun (hc305 : 2 ≤ (((x0.toUInt32 >>> ((4 : Int32) &&& 31).toUInt32).toInt32) &&& (3 : Int32)).toInt) => ?_)
      · -- pc 75: t
        refine own_iload X302 hx hby at_88 rfl rfl ?_
        refine own_iconst X302 hx hby at_90 rfl (3 : Int32) rfl ?_
        refine own_icmp_lt X302 hx hby at_91 (pcY := 104) (pcN := 94) (by decide) rfl (fun (hc306 : (((x0.toUInt32 >>> ((4 : Int32) &&& 31).toUInt32).toInt32) &&& (3 : Int32)).toInt < 3) => ?_) (fun (hc306 : 3 ≤ (((x0.toUInt32 >>> ((4 : Int32) &&& 31).toUInt32).toInt32) &&& (3 : Int32)).toInt) => False.elim (by omega))
        have f307 := (f303.keep K302)
        exact tail1 hx hby hml hown hret hlk hZ hw hR302 (by decide) (by decide) (Fr.app (Fr.app N291 N294q) N302q) f307 Fn302 VL302 X302 rfl
      · -- pc 75: f
        refine own_aload X302 hx hby at_78 rfl rfl rfl ?_
        refine own_aload X302 hx hby at_80 rfl rfl rfl ?_
        refine own_iloadN X302 hx hby at_82 rfl rfl ?_
        refine own_iload X302 hx hby at_83 rfl rfl ?_
        have f309 := (f303.keep K302)
        refine own_static X302 hx hby hZ (argsL := [(.ref b292), (.ref b287), (.int x2), (.int (1 : Int32))]) (rest := []) hown (hw _ tw_19) (hw _ tw_20) (hw _ tw_21) (hw _ tw_22) (by decide) (rm4 l Z a0 hw b292 b287 x2 (1 : Int32) T302.heap n0 (P := P302) own_ok1 (own_st1 _ hR302).1 (by decide) gq294 (Nat.ne_of_lt (Nat.lt_of_lt_of_le A292.lt sq294)) Fp302 V302 ge_b292 f309 Fn302 (by decide) ge_b287 (Ne.symm ne_b287_b292) (Ne.symm (Nat.ne_of_lt (Nat.lt_of_lt_of_le f295.lt sq294))) VL302) rfl (by rw [hml]; rfl) pd_5 rfl (by decide) (W := 0) (Nat.le_refl _) (by decide) (by decide) (by decide) at_85 rfl rfl (fun v308 T308 L308 X308 hQ308 => ?_)
        obtain ⟨rfl, N308q, K308, Fp308, Fn308, V308, VL308⟩ := hQ308
        have hR308 := ((own_st1 _ hR302).2.2 _ (own_mem (own_rem x2 (1 : Int32) (by decide)).1 (own_rem x2 (1 : Int32) (by decide)).2) _ (own_mem (own_rem (x2.toUInt32 >>> ((8 : Int32) &&& 31).toUInt32).toInt32 (1 : Int32) (by decide)).1 (own_rem (x2.toUInt32 >>> ((8 : Int32) &&& 31).toUInt32).toInt32 (1 : Int32) (by decide)).2))
        dsimp only at hR308
        generalize own_jn _ _ _ = P308 at hR308 Fn308 V308
        generalize own_jc _ _ _ _ = c308 at hR308 Fn308
        generalize own_rl _ _ _ = ls308 at hR308 VL308
        obtain ⟨l0_308, l1_308, l2_308, l3_308, rfl⟩ := own_len4 (own_st1 _ hR308).2.1
        show Ends p.tables e below _ (T308.setTop (mkF m 88 #[.val (.int x0), .val (.int x1), .val (.int x2), .val (.int x3), .val (.int (1 : Int32)), .val (.int (((x0.toUInt32 >>> ((4 : Int32) &&& 31).toUInt32).toInt32) &&& (3 : Int32))), .val (.ref b287), .val (.ref b292), .unset] []))
        refine own_iload X308 hx hby at_88 rfl rfl ?_
        refine own_iconst X308 hx hby at_90 rfl (3 : Int32) rfl ?_
        refine own_icmp_lt X308 hx hby at_91 (pcY := 104) (pcN := 94) (by decide) rfl (fun (hc310 : (((x0.toUInt32 >>> ((4 : Int32) &&& 31).toUInt32).toInt32) &&& (3 : Int32)).toInt < 3) => ?_) (fun (hc310 : 3 ≤ (((x0.toUInt32 >>> ((4 : Int32) &&& 31).toUInt32).toInt32) &&& (3 : Int32)).toInt) => ?_)
        · -- pc 91: t
          have f311 := (f309.keep K308)
          exact tail1 hx hby hml hown hret hlk hZ hw hR308 (by decide) (by decide) (Fr.app (Fr.app (Fr.app N291 N294q) N302q) N308q) f311 Fn308 VL308 X308 rfl
        · -- pc 91: f
          refine own_aload X308 hx hby at_94 rfl rfl rfl ?_
          refine own_aload X308 hx hby at_96 rfl rfl rfl ?_
          refine own_iloadN X308 hx hby at_98 rfl rfl ?_
          refine own_iload X308 hx hby at_99 rfl rfl ?_
          have f313 := (f309.keep K308)
          refine own_static X308 hx hby hZ (argsL := [(.ref b292), (.ref b287), (.int x3), (.int (1 : Int32))]) (rest := []) hown (hw _ tw_19) (hw _ tw_20) (hw _ tw_21) (hw _ tw_22) (by decide) (rm4 l Z a0 hw b292 b287 x3 (1 : Int32) T308.heap n0 (P := P308) own_ok1 (own_st1 _ hR308).1 (by decide) gq294 (Nat.ne_of_lt (Nat.lt_of_lt_of_le A292.lt sq294)) Fp308 V308 ge_b292 f313 Fn308 (by decide) ge_b287 (Ne.symm ne_b287_b292) (Ne.symm (Nat.ne_of_lt (Nat.lt_of_lt_of_le f295.lt sq294))) VL308) rfl (by rw [hml]; rfl) pd_5 rfl (by decide) (W := 0) (Nat.le_refl _) (by decide) (by decide) (by decide) at_101 rfl rfl (fun v312 T312 L312 X312 hQ312 => ?_)
          obtain ⟨rfl, N312q, K312, Fp312, Fn312, V312, VL312⟩ := hQ312
          have hR312 := ((own_st1 _ hR308).2.2 _ (own_mem (own_rem x3 (1 : Int32) (by decide)).1 (own_rem x3 (1 : Int32) (by decide)).2) _ (own_mem (own_rem (x3.toUInt32 >>> ((8 : Int32) &&& 31).toUInt32).toInt32 (1 : Int32) (by decide)).1 (own_rem (x3.toUInt32 >>> ((8 : Int32) &&& 31).toUInt32).toInt32 (1 : Int32) (by decide)).2))
          dsimp only at hR312
          generalize own_jn _ _ _ = P312 at hR312 Fn312 V312
          generalize own_jc _ _ _ _ = c312 at hR312 Fn312
          generalize own_rl _ _ _ = ls312 at hR312 VL312
          obtain ⟨l0_312, l1_312, l2_312, l3_312, rfl⟩ := own_len4 (own_st1 _ hR312).2.1
          show Ends p.tables e below _ (T312.setTop (mkF m 104 #[.val (.int x0), .val (.int x1), .val (.int x2), .val (.int x3), .val (.int (1 : Int32)), .val (.int (((x0.toUInt32 >>> ((4 : Int32) &&& 31).toUInt32).toInt32) &&& (3 : Int32))), .val (.ref b287), .val (.ref b292), .unset] []))
          have f314 := (f313.keep K312)
          exact tail1 hx hby hml hown hret hlk hZ hw hR312 (by decide) (by decide) (Fr.app (Fr.app (Fr.app (Fr.app N291 N294q) N302q) N308q) N312q) f314 Fn312 VL312 X312 rfl
  · -- n = 2
    rw [hz]
    show Ends p.tables e below _ (s₁.setTop (mkF m 8 #[.val (.int x0), .val (.int x1), .val (.int x2), .val (.int x3), .val (.int (2 : Int32)), .unset, .unset, .unset, .unset] []))
    refine own_iload X0 hx hby at_8 rfl rfl ?_
    refine own_if_ne X0 hx hby at_10 (pcY := 17) (pcN := 13) (by decide) rfl (fun (hc315 : ¬ (2 : Int32) = (0 : Int32)) => ?_) (fun (hc315 : (2 : Int32) = (0 : Int32)) => False.elim (by exact absurd hc315 (by decide)))
    refine own_iloadN X0 hx hby at_17 rfl rfl ?_
    refine own_iconst X0 hx hby at_18 rfl (4 : Int32) rfl ?_
    refine own_iushr X0 hx hby at_19 rfl ?_
    refine own_iconst X0 hx hby at_20 rfl (3 : Int32) rfl ?_
    refine own_iand X0 hx hby at_21 rfl ?_
    refine own_istore X0 hx hby at_22 rfl #[.val (.int x0), .val (.int x1), .val (.int x2), .val (.int x3), .val (.int (2 : Int32)), .val (.int (((x0.toUInt32 >>> ((4 : Int32) &&& 31).toUInt32).toInt32) &&& (3 : Int32))), .unset, .unset, .unset] rfl ?_
    refine own_iconst X0 hx hby at_24 rfl (4 : Int32) rfl ?_
    refine own_newarray X0 hx hby hZ (aty := .int) (hw _ tw_0) e0 (by decide) 4 (by decide) (by decide) (by decide) (by decide) .int rfl [(.int (0 : Int32)), (.int (0 : Int32)), (.int (0 : Int32)), (.int (0 : Int32))] rfl at_25 rfl (fun T316 h316 b316 k316 X316 e316 g316 E316 V316 => ?_)
    have ge_b316 : n0 ≤ b316 := own_ge O g316
    refine own_dup X316 hx hby at_27 rfl rfl ?_
    refine own_iconst X316 hx hby at_28 rfl (0 : Int32) rfl ?_
    refine own_iconst X316 hx hby at_29 rfl (0 : Int32) rfl ?_
    refine own_iastore X316 hx hby hZ (0 : Int32) rfl e316 V316 (by decide) 0 rfl (show 0 < 4 by decide) [(.int (0 : Int32)), (.int (0 : Int32)), (.int (0 : Int32)), (.int (0 : Int32))] rfl rfl N0 ge_b316 at_30 rfl (fun T317 h317 L317 X317 e317 W317 V317 N317 => ?_)
    refine own_dup X317 hx hby at_31 rfl rfl ?_
    refine own_iconst X317 hx hby at_32 rfl (1 : Int32) rfl ?_
    refine own_iconst X317 hx hby at_33 rfl (1 : Int32) rfl ?_
    refine own_iastore X317 hx hby hZ (1 : Int32) rfl e317 V317 (by decide) 1 rfl (show 1 < 4 by decide) [(.int (0 : Int32)), (.int (1 : Int32)), (.int (0 : Int32)), (.int (0 : Int32))] rfl rfl N317 ge_b316 at_34 rfl (fun T318 h318 L318 X318 e318 W318 V318 N318 => ?_)
    refine own_dup X318 hx hby at_35 rfl rfl ?_
    refine own_iconst X318 hx hby at_36 rfl (2 : Int32) rfl ?_
    refine own_iconst X318 hx hby at_37 rfl (2 : Int32) rfl ?_
    refine own_iastore X318 hx hby hZ (2 : Int32) rfl e318 V318 (by decide) 2 rfl (show 2 < 4 by decide) [(.int (0 : Int32)), (.int (1 : Int32)), (.int (2 : Int32)), (.int (0 : Int32))] rfl rfl N318 ge_b316 at_38 rfl (fun T319 h319 L319 X319 e319 W319 V319 N319 => ?_)
    refine own_dup X319 hx hby at_39 rfl rfl ?_
    refine own_iconst X319 hx hby at_40 rfl (3 : Int32) rfl ?_
    refine own_iconst X319 hx hby at_41 rfl (3 : Int32) rfl ?_
    refine own_iastore X319 hx hby hZ (3 : Int32) rfl e319 V319 (by decide) 3 rfl (show 3 < 4 by decide) [(.int (0 : Int32)), (.int (1 : Int32)), (.int (2 : Int32)), (.int (3 : Int32))] rfl rfl N319 ge_b316 at_42 rfl (fun T320 h320 L320 X320 e320 W320 V320 N320 => ?_)
    refine own_astore X320 hx hby at_43 rfl #[.val (.int x0), .val (.int x1), .val (.int x2), .val (.int x3), .val (.int (2 : Int32)), .val (.int (((x0.toUInt32 >>> ((4 : Int32) &&& 31).toUInt32).toInt32) &&& (3 : Int32))), .val (.ref b316), .unset, .unset] rfl rfl ?_
    have f322 := (((((O.ext E316).wr W317 ge_b316).wr W318 ge_b316).wr W319 ge_b316).wr W320 ge_b316)
    refine own_new X320 hx hby hZ hown (hw _ tw_1) (hw _ tw_2) (hw _ tw_3) e320 (by decide) (by decide) at_45 rfl (fun T321 h321 b321 X321 e321 g321 E321 A321 D321 => ?_)
    have ge_b321 : n0 ≤ b321 := own_ge f322 g321
    have ne_b316_b321 : b316 ≠ b321 := own_lt V320.lt g321
    have F321_parent : Fld Z h321 b321 "com/example/weftwork/weftwork/model/Components" "parent" "[I" .null := D321 (Or.inr (hw _ tw_11)) (ty := (.array .int)) (by decide)
    have F321_count : Fld Z h321 b321 "com/example/weftwork/weftwork/model/Components" "count" "I" (.int (0 : Int32)) := D321 (Or.inl (hw _ tw_13)) (ty := .int) (by decide)
    refine own_dup X321 hx hby at_48 rfl rfl ?_
    refine own_iload X321 hx hby at_49 rfl rfl ?_
    have f324 := (V320.ext E321)
    have f325 := (f322.ext E321)
    refine own_special X321 hx hby hZ (a := b321) (argsL := [(.int (2 : Int32))]) (rest := [(.ref b321)]) hown rfl (hw _ tw_4) (hw _ tw_5) (hw _ tw_3) (hw _ tw_6) (by decide) (rm1_2 l Z a0 hw b321 h321 n0 f325 ge_b321 A321 F321_parent F321_count) e321 (by rw [hml]; rfl) pd_4 rfl (by decide) (W := 1) (Nat.le_refl _) (by decide) (by decide) (by decide) at_51 rfl rfl (fun v323 T323 L323 X323 hQ323 => ?_)
    obtain ⟨rfl, N323q, K323, pa323, kp323, Fp323, sq323, gq323, Fn323, V323⟩ := hQ323
    show Ends p.tables e below _ (T323.setTop (mkF m 54 #[.val (.int x0), .val (.int x1), .val (.int x2), .val (.int x3), .val (.int (2 : Int32)), .val (.int (((x0.toUInt32 >>> ((4 : Int32) &&& 31).toUInt32).toInt32) &&& (3 : Int32))), .val (.ref b316), .unset, .unset] [(.ref b321)]))
    refine own_astore X323 hx hby at_54 rfl #[.val (.int x0), .val (.int x1), .val (.int x2), .val (.int x3), .val (.int (2 : Int32)), .val (.int (((x0.toUInt32 >>> ((4 : Int32) &&& 31).toUInt32).toInt32) &&& (3 : Int32))), .val (.ref b316), .val (.ref b321), .unset] rfl rfl ?_
    have hR0 : (([0, 1], 2, [0, 1, 2, 3]) : OwnT) ∈ own_R2 := by decide +kernel
    refine own_iload X323 hx hby at_56 rfl rfl ?_
    refine own_iconst X323 hx hby at_58 rfl (1 : Int32) rfl ?_
    refine own_icmp_lt X323 hx hby at_59 (pcY := 72) (pcN := 62) (by decide) rfl (fun (hc326 : (((x0.toUInt32 >>> ((4 : Int32) &&& 31).toUInt32).toInt32) &&& (3 : Int32)).toInt < 1) => ?_) (fun (hc326 : 1 ≤ (((x0.toUInt32 >>> ((4 : Int32) &&& 31).toUInt32).toInt32) &&& (3 : Int32)).toInt) => ?_)
    · -- pc 59: t
      refine own_iload X323 hx hby at_72 rfl rfl ?_
      refine own_iconst X323 hx hby at_74 rfl (2 : Int32) rfl ?_
      refine own_icmp_lt X323 hx hby at_75 (pcY := 88) (pcN := 78) (by decide) rfl (fun (hc327 : (((x0.toUInt32 >>> ((4 : Int32) &&& 31).toUInt32).toInt32) &&& (3 : Int32)).toInt < 2) => ?_) (fun (hc327 : 2 ≤ (((x0.toUInt32 >>> ((4 : Int32) &&& 31).toUInt32).toInt32) &&& (3 : Int32)).toInt) => False.elim (by omega))
      refine own_iload X323 hx hby at_88 rfl rfl ?_
      refine own_iconst X323 hx hby at_90 rfl (3 : Int32) rfl ?_
      refine own_icmp_lt X323 hx hby at_91 (pcY := 104) (pcN := 94) (by decide) rfl (fun (hc328 : (((x0.toUInt32 >>> ((4 : Int32) &&& 31).toUInt32).toInt32) &&& (3 : Int32)).toInt < 3) => ?_) (fun (hc328 : 3 ≤ (((x0.toUInt32 >>> ((4 : Int32) &&& 31).toUInt32).toInt32) &&& (3 : Int32)).toInt) => False.elim (by omega))
      have f329 := (A321.keep K323)
      have f330 := (f324.keep K323 (ninS ne_b316_b321 nin0))
      exact tail2 hx hby hml hown hret hlk hZ hw hR0 (by decide) (by decide) (Fr.app N320 N323q) f329 Fn323 f330 X323 rfl
    · -- pc 59: f
      refine own_aload X323 hx hby at_62 rfl rfl rfl ?_
      refine own_aload X323 hx hby at_64 rfl rfl rfl ?_
      refine own_iloadN X323 hx hby at_66 rfl rfl ?_
      refine own_iload X323 hx hby at_67 rfl rfl ?_
      have f332 := (A321.keep K323)
      have f333 := (f324.keep K323 (ninS ne_b316_b321 nin0))
      refine own_static X323 hx hby hZ (argsL := [(.ref b321), (.ref b316), (.int x1), (.int (2 : Int32))]) (rest := []) hown (hw _ tw_19) (hw _ tw_20) (hw _ tw_21) (hw _ tw_22) (by decide) (rm4 l Z a0 hw b321 b316 x1 (2 : Int32) T323.heap n0 (P := [0, 1]) own_ok2 (own_st2 _ hR0).1 (by decide) gq323 (Nat.ne_of_lt (Nat.lt_of_lt_of_le A321.lt sq323)) Fp323 V323 ge_b321 f332 Fn323 (by decide) ge_b316 (Ne.symm ne_b316_b321) (Ne.symm (Nat.ne_of_lt (Nat.lt_of_lt_of_le f324.lt sq323))) f333) rfl (by rw [hml]; rfl) pd_5 rfl (by decide) (W := 0) (Nat.le_refl _) (by decide) (by decide) (by decide) at_69 rfl rfl (fun v331 T331 L331 X331 hQ331 => ?_)
      obtain ⟨rfl, N331q, K331, Fp331, Fn331, V331, VL331⟩ := hQ331
      have hR331 := ((own_st2 _ hR0).2.2 _ (own_mem (own_rem x1 (2 : Int32) (by decide)).1 (own_rem x1 (2 : Int32) (by decide)).2) _ (own_mem (own_rem (x1.toUInt32 >>> ((8 : Int32) &&& 31).toUInt32).toInt32 (2 : Int32) (by decide)).1 (own_rem (x1.toUInt32 >>> ((8 : Int32) &&& 31).toUInt32).toInt32 (2 : Int32) (by decide)).2))
      dsimp only at hR331
      generalize own_jn _ _ _ = P331 at hR331 Fn331 V331
      generalize own_jc _ _ _ _ = c331 at hR331 Fn331
      generalize own_rl _ _ _ = ls331 at hR331 VL331
      obtain ⟨l0_331, l1_331, l2_331, l3_331, rfl⟩ := own_len4 (own_st2 _ hR331).2.1
      show Ends p.tables e below _ (T331.setTop (mkF m 72 #[.val (.int x0), .val (.int x1), .val (.int x2), .val (.int x3), .val (.int (2 : Int32)), .val (.int (((x0.toUInt32 >>> ((4 : Int32) &&& 31).toUInt32).toInt32) &&& (3 : Int32))), .val (.ref b316), .val (.ref b321), .unset] []))
      refine own_iload X331 hx hby at_72 rfl rfl ?_
      refine own_iconst X331 hx hby at_74 rfl (2 : Int32) rfl ?_
      refine own_icmp_lt X331 hx hby at_75 (pcY := 88) (pcN := 78) (by decide) rfl (fun (hc334 : (((x0.toUInt32 >>> ((4 : Int32) &&& 31).toUInt32).toInt32) &&& (3 : Int32)).toInt < 2) => ?_) (fun (hc334 : 2 ≤ (((x0.toUInt32 >>> ((4 : Int32) &&& 31).toUInt32).toInt32) &&& (3 : Int32)).toInt) => ?_)
      · -- pc 75: t
        refine own_iload X331 hx hby at_88 rfl rfl ?_
        refine own_iconst X331 hx hby at_90 rfl (3 : Int32) rfl ?_
        refine own_icmp_lt X331 hx hby at_91 (pcY := 104) (pcN := 94) (by decide) rfl (fun (hc335 : (((x0.toUInt32 >>> ((4 : Int32) &&& 31).toUInt32).toInt32) &&& (3 : Int32)).toInt < 3) => ?_) (fun (hc335 : 3 ≤ (((x0.toUInt32 >>> ((4 : Int32) &&& 31).toUInt32).toInt32) &&& (3 : Int32)).toInt) => False.elim (by omega))
        have f336 := (f332.keep K331)
        exact tail2 hx hby hml hown hret hlk hZ hw hR331 (by decide) (by decide) (Fr.app (Fr.app N320 N323q) N331q) f336 Fn331 VL331 X331 rfl
      · -- pc 75: f
        refine own_aload X331 hx hby at_78 rfl rfl rfl ?_
        refine own_aload X331 hx hby at_80 rfl rfl rfl ?_
        refine own_iloadN X331 hx hby at_82 rfl rfl ?_
        refine own_iload X331 hx hby at_83 rfl rfl ?_
        have f338 := (f332.keep K331)
        refine own_static X331 hx hby hZ (argsL := [(.ref b321), (.ref b316), (.int x2), (.int (2 : Int32))]) (rest := []) hown (hw _ tw_19) (hw _ tw_20) (hw _ tw_21) (hw _ tw_22) (by decide) (rm4 l Z a0 hw b321 b316 x2 (2 : Int32) T331.heap n0 (P := P331) own_ok2 (own_st2 _ hR331).1 (by decide) gq323 (Nat.ne_of_lt (Nat.lt_of_lt_of_le A321.lt sq323)) Fp331 V331 ge_b321 f338 Fn331 (by decide) ge_b316 (Ne.symm ne_b316_b321) (Ne.symm (Nat.ne_of_lt (Nat.lt_of_lt_of_le f324.lt sq323))) VL331) rfl (by rw [hml]; rfl) pd_5 rfl (by decide) (W := 0) (Nat.le_refl _) (by decide) (by decide) (by decide) at_85 rfl rfl (fun v337 T337 L337 X337 hQ337 => ?_)
        obtain ⟨rfl, N337q, K337, Fp337, Fn337, V337, VL337⟩ := hQ337
        have hR337 := ((own_st2 _ hR331).2.2 _ (own_mem (own_rem x2 (2 : Int32) (by decide)).1 (own_rem x2 (2 : Int32) (by decide)).2) _ (own_mem (own_rem (x2.toUInt32 >>> ((8 : Int32) &&& 31).toUInt32).toInt32 (2 : Int32) (by decide)).1 (own_rem (x2.toUInt32 >>> ((8 : Int32) &&& 31).toUInt32).toInt32 (2 : Int32) (by decide)).2))
        dsimp only at hR337
        generalize own_jn _ _ _ = P337 at hR337 Fn337 V337
        generalize own_jc _ _ _ _ = c337 at hR337 Fn337
        generalize own_rl _ _ _ = ls337 at hR337 VL337
        obtain ⟨l0_337, l1_337, l2_337, l3_337, rfl⟩ := own_len4 (own_st2 _ hR337).2.1
        show Ends p.tables e below _ (T337.setTop (mkF m 88 #[.val (.int x0), .val (.int x1), .val (.int x2), .val (.int x3), .val (.int (2 : Int32)), .val (.int (((x0.toUInt32 >>> ((4 : Int32) &&& 31).toUInt32).toInt32) &&& (3 : Int32))), .val (.ref b316), .val (.ref b321), .unset] []))
        refine own_iload X337 hx hby at_88 rfl rfl ?_
        refine own_iconst X337 hx hby at_90 rfl (3 : Int32) rfl ?_
        refine own_icmp_lt X337 hx hby at_91 (pcY := 104) (pcN := 94) (by decide) rfl (fun (hc339 : (((x0.toUInt32 >>> ((4 : Int32) &&& 31).toUInt32).toInt32) &&& (3 : Int32)).toInt < 3) => ?_) (fun (hc339 : 3 ≤ (((x0.toUInt32 >>> ((4 : Int32) &&& 31).toUInt32).toInt32) &&& (3 : Int32)).toInt) => ?_)
        · -- pc 91: t
          have f340 := (f338.keep K337)
          exact tail2 hx hby hml hown hret hlk hZ hw hR337 (by decide) (by decide) (Fr.app (Fr.app (Fr.app N320 N323q) N331q) N337q) f340 Fn337 VL337 X337 rfl
        · -- pc 91: f
          refine own_aload X337 hx hby at_94 rfl rfl rfl ?_
          refine own_aload X337 hx hby at_96 rfl rfl rfl ?_
          refine own_iloadN X337 hx hby at_98 rfl rfl ?_
          refine own_iload X337 hx hby at_99 rfl rfl ?_
          have f342 := (f338.keep K337)
          refine own_static X337 hx hby hZ (argsL := [(.ref b321), (.ref b316), (.int x3), (.int (2 : Int32))]) (rest := []) hown (hw _ tw_19) (hw _ tw_20) (hw _ tw_21) (hw _ tw_22) (by decide) (rm4 l Z a0 hw b321 b316 x3 (2 : Int32) T337.heap n0 (P := P337) own_ok2 (own_st2 _ hR337).1 (by decide) gq323 (Nat.ne_of_lt (Nat.lt_of_lt_of_le A321.lt sq323)) Fp337 V337 ge_b321 f342 Fn337 (by decide) ge_b316 (Ne.symm ne_b316_b321) (Ne.symm (Nat.ne_of_lt (Nat.lt_of_lt_of_le f324.lt sq323))) VL337) rfl (by rw [hml]; rfl) pd_5 rfl (by decide) (W := 0) (Nat.le_refl _) (by decide) (by decide) (by decide) at_101 rfl rfl (fun v341 T341 L341 X341 hQ341 => ?_)
          obtain ⟨rfl, N341q, K341, Fp341, Fn341, V341, VL341⟩ := hQ341
          have hR341 := ((own_st2 _ hR337).2.2 _ (own_mem (own_rem x3 (2 : Int32) (by decide)).1 (own_rem x3 (2 : Int32) (by decide)).2) _ (own_mem (own_rem (x3.toUInt32 >>> ((8 : Int32) &&& 31).toUInt32).toInt32 (2 : Int32) (by decide)).1 (own_rem (x3.toUInt32 >>> ((8 : Int32) &&& 31).toUInt32).toInt32 (2 : Int32) (by decide)).2))
          dsimp only at hR341
          generalize own_jn _ _ _ = P341 at hR341 Fn341 V341
          generalize own_jc _ _ _ _ = c341 at hR341 Fn341
          generalize own_rl _ _ _ = ls341 at hR341 VL341
          obtain ⟨l0_341, l1_341, l2_341, l3_341, rfl⟩ := own_len4 (own_st2 _ hR341).2.1
          show Ends p.tables e below _ (T341.setTop (mkF m 104 #[.val (.int x0), .val (.int x1), .val (.int x2), .val (.int x3), .val (.int (2 : Int32)), .val (.int (((x0.toUInt32 >>> ((4 : Int32) &&& 31).toUInt32).toInt32) &&& (3 : Int32))), .val (.ref b316), .val (.ref b321), .unset] []))
          have f343 := (f342.keep K341)
          exact tail2 hx hby hml hown hret hlk hZ hw hR341 (by decide) (by decide) (Fr.app (Fr.app (Fr.app (Fr.app N320 N323q) N331q) N337q) N341q) f343 Fn341 VL341 X341 rfl
  · -- n = 3
    rw [hz]
    show Ends p.tables e below _ (s₁.setTop (mkF m 8 #[.val (.int x0), .val (.int x1), .val (.int x2), .val (.int x3), .val (.int (3 : Int32)), .unset, .unset, .unset, .unset] []))
    refine own_iload X0 hx hby at_8 rfl rfl ?_
    refine own_if_ne X0 hx hby at_10 (pcY := 17) (pcN := 13) (by decide) rfl (fun (hc344 : ¬ (3 : Int32) = (0 : Int32)) => ?_) (fun (hc344 : (3 : Int32) = (0 : Int32)) => False.elim (by exact absurd hc344 (by decide)))
    refine own_iloadN X0 hx hby at_17 rfl rfl ?_
    refine own_iconst X0 hx hby at_18 rfl (4 : Int32) rfl ?_
    refine own_iushr X0 hx hby at_19 rfl ?_
    refine own_iconst X0 hx hby at_20 rfl (3 : Int32) rfl ?_
    refine own_iand X0 hx hby at_21 rfl ?_
    refine own_istore X0 hx hby at_22 rfl #[.val (.int x0), .val (.int x1), .val (.int x2), .val (.int x3), .val (.int (3 : Int32)), .val (.int (((x0.toUInt32 >>> ((4 : Int32) &&& 31).toUInt32).toInt32) &&& (3 : Int32))), .unset, .unset, .unset] rfl ?_
    refine own_iconst X0 hx hby at_24 rfl (4 : Int32) rfl ?_
    refine own_newarray X0 hx hby hZ (aty := .int) (hw _ tw_0) e0 (by decide) 4 (by decide) (by decide) (by decide) (by decide) .int rfl [(.int (0 : Int32)), (.int (0 : Int32)), (.int (0 : Int32)), (.int (0 : Int32))] rfl at_25 rfl (fun T345 h345 b345 k345 X345 e345 g345 E345 V345 => ?_)
    have ge_b345 : n0 ≤ b345 := own_ge O g345
    refine own_dup X345 hx hby at_27 rfl rfl ?_
    refine own_iconst X345 hx hby at_28 rfl (0 : Int32) rfl ?_
    refine own_iconst X345 hx hby at_29 rfl (0 : Int32) rfl ?_
    refine own_iastore X345 hx hby hZ (0 : Int32) rfl e345 V345 (by decide) 0 rfl (show 0 < 4 by decide) [(.int (0 : Int32)), (.int (0 : Int32)), (.int (0 : Int32)), (.int (0 : Int32))] rfl rfl N0 ge_b345 at_30 rfl (fun T346 h346 L346 X346 e346 W346 V346 N346 => ?_)
    refine own_dup X346 hx hby at_31 rfl rfl ?_
    refine own_iconst X346 hx hby at_32 rfl (1 : Int32) rfl ?_
    refine own_iconst X346 hx hby at_33 rfl (1 : Int32) rfl ?_
    refine own_iastore X346 hx hby hZ (1 : Int32) rfl e346 V346 (by decide) 1 rfl (show 1 < 4 by decide) [(.int (0 : Int32)), (.int (1 : Int32)), (.int (0 : Int32)), (.int (0 : Int32))] rfl rfl N346 ge_b345 at_34 rfl (fun T347 h347 L347 X347 e347 W347 V347 N347 => ?_)
    refine own_dup X347 hx hby at_35 rfl rfl ?_
    refine own_iconst X347 hx hby at_36 rfl (2 : Int32) rfl ?_
    refine own_iconst X347 hx hby at_37 rfl (2 : Int32) rfl ?_
    refine own_iastore X347 hx hby hZ (2 : Int32) rfl e347 V347 (by decide) 2 rfl (show 2 < 4 by decide) [(.int (0 : Int32)), (.int (1 : Int32)), (.int (2 : Int32)), (.int (0 : Int32))] rfl rfl N347 ge_b345 at_38 rfl (fun T348 h348 L348 X348 e348 W348 V348 N348 => ?_)
    refine own_dup X348 hx hby at_39 rfl rfl ?_
    refine own_iconst X348 hx hby at_40 rfl (3 : Int32) rfl ?_
    refine own_iconst X348 hx hby at_41 rfl (3 : Int32) rfl ?_
    refine own_iastore X348 hx hby hZ (3 : Int32) rfl e348 V348 (by decide) 3 rfl (show 3 < 4 by decide) [(.int (0 : Int32)), (.int (1 : Int32)), (.int (2 : Int32)), (.int (3 : Int32))] rfl rfl N348 ge_b345 at_42 rfl (fun T349 h349 L349 X349 e349 W349 V349 N349 => ?_)
    refine own_astore X349 hx hby at_43 rfl #[.val (.int x0), .val (.int x1), .val (.int x2), .val (.int x3), .val (.int (3 : Int32)), .val (.int (((x0.toUInt32 >>> ((4 : Int32) &&& 31).toUInt32).toInt32) &&& (3 : Int32))), .val (.ref b345), .unset, .unset] rfl rfl ?_
    have f351 := (((((O.ext E345).wr W346 ge_b345).wr W347 ge_b345).wr W348 ge_b345).wr W349 ge_b345)
    refine own_new X349 hx hby hZ hown (hw _ tw_1) (hw _ tw_2) (hw _ tw_3) e349 (by decide) (by decide) at_45 rfl (fun T350 h350 b350 X350 e350 g350 E350 A350 D350 => ?_)
    have ge_b350 : n0 ≤ b350 := own_ge f351 g350
    have ne_b345_b350 : b345 ≠ b350 := own_lt V349.lt g350
    have F350_parent : Fld Z h350 b350 "com/example/weftwork/weftwork/model/Components" "parent" "[I" .null := D350 (Or.inr (hw _ tw_11)) (ty := (.array .int)) (by decide)
    have F350_count : Fld Z h350 b350 "com/example/weftwork/weftwork/model/Components" "count" "I" (.int (0 : Int32)) := D350 (Or.inl (hw _ tw_13)) (ty := .int) (by decide)
    refine own_dup X350 hx hby at_48 rfl rfl ?_
    refine own_iload X350 hx hby at_49 rfl rfl ?_
    have f353 := (V349.ext E350)
    have f354 := (f351.ext E350)
    refine own_special X350 hx hby hZ (a := b350) (argsL := [(.int (3 : Int32))]) (rest := [(.ref b350)]) hown rfl (hw _ tw_4) (hw _ tw_5) (hw _ tw_3) (hw _ tw_6) (by decide) (rm1_3 l Z a0 hw b350 h350 n0 f354 ge_b350 A350 F350_parent F350_count) e350 (by rw [hml]; rfl) pd_4 rfl (by decide) (W := 1) (Nat.le_refl _) (by decide) (by decide) (by decide) at_51 rfl rfl (fun v352 T352 L352 X352 hQ352 => ?_)
    obtain ⟨rfl, N352q, K352, pa352, kp352, Fp352, sq352, gq352, Fn352, V352⟩ := hQ352
    show Ends p.tables e below _ (T352.setTop (mkF m 54 #[.val (.int x0), .val (.int x1), .val (.int x2), .val (.int x3), .val (.int (3 : Int32)), .val (.int (((x0.toUInt32 >>> ((4 : Int32) &&& 31).toUInt32).toInt32) &&& (3 : Int32))), .val (.ref b345), .unset, .unset] [(.ref b350)]))
    refine own_astore X352 hx hby at_54 rfl #[.val (.int x0), .val (.int x1), .val (.int x2), .val (.int x3), .val (.int (3 : Int32)), .val (.int (((x0.toUInt32 >>> ((4 : Int32) &&& 31).toUInt32).toInt32) &&& (3 : Int32))), .val (.ref b345), .val (.ref b350), .unset] rfl rfl ?_
    have hR0 : (([0, 1, 2], 3, [0, 1, 2, 3]) : OwnT) ∈ own_R3 := by decide +kernel
    refine own_iload X352 hx hby at_56 rfl rfl ?_
    refine own_iconst X352 hx hby at_58 rfl (1 : Int32) rfl ?_
    refine own_icmp_lt X352 hx hby at_59 (pcY := 72) (pcN := 62) (by decide) rfl (fun (hc355 : (((x0.toUInt32 >>> ((4 : Int32) &&& 31).toUInt32).toInt32) &&& (3 : Int32)).toInt < 1) => ?_) (fun (hc355 : 1 ≤ (((x0.toUInt32 >>> ((4 : Int32) &&& 31).toUInt32).toInt32) &&& (3 : Int32)).toInt) => ?_)
    · -- pc 59: t
      refine own_iload X352 hx hby at_72 rfl rfl ?_
      refine own_iconst X352 hx hby at_74 rfl (2 : Int32) rfl ?_
      refine own_icmp_lt X352 hx hby at_75 (pcY := 88) (pcN := 78) (by decide) rfl (fun (hc356 : (((x0.toUInt32 >>> ((4 : Int32) &&& 31).toUInt32).toInt32) &&& (3 : Int32)).toInt < 2) => ?_) (fun (hc356 : 2 ≤ (((x0.toUInt32 >>> ((4 : Int32) &&& 31).toUInt32).toInt32) &&& (3 : Int32)).toInt) => False.elim (by omega))
      refine own_iload X352 hx hby at_88 rfl rfl ?_
      refine own_iconst X352 hx hby at_90 rfl (3 : Int32) rfl ?_
      refine own_icmp_lt X352 hx hby at_91 (pcY := 104) (pcN := 94) (by decide) rfl (fun (hc357 : (((x0.toUInt32 >>> ((4 : Int32) &&& 31).toUInt32).toInt32) &&& (3 : Int32)).toInt < 3) => ?_) (fun (hc357 : 3 ≤ (((x0.toUInt32 >>> ((4 : Int32) &&& 31).toUInt32).toInt32) &&& (3 : Int32)).toInt) => False.elim (by omega))
      have f358 := (A350.keep K352)
      have f359 := (f353.keep K352 (ninS ne_b345_b350 nin0))
      exact tail3 hx hby hml hown hret hlk hZ hw hR0 (by decide) (by decide) (Fr.app N349 N352q) f358 Fn352 f359 X352 rfl
    · -- pc 59: f
      refine own_aload X352 hx hby at_62 rfl rfl rfl ?_
      refine own_aload X352 hx hby at_64 rfl rfl rfl ?_
      refine own_iloadN X352 hx hby at_66 rfl rfl ?_
      refine own_iload X352 hx hby at_67 rfl rfl ?_
      have f361 := (A350.keep K352)
      have f362 := (f353.keep K352 (ninS ne_b345_b350 nin0))
      refine own_static X352 hx hby hZ (argsL := [(.ref b350), (.ref b345), (.int x1), (.int (3 : Int32))]) (rest := []) hown (hw _ tw_19) (hw _ tw_20) (hw _ tw_21) (hw _ tw_22) (by decide) (rm4 l Z a0 hw b350 b345 x1 (3 : Int32) T352.heap n0 (P := [0, 1, 2]) own_ok3 (own_st3 _ hR0).1 (by decide) gq352 (Nat.ne_of_lt (Nat.lt_of_lt_of_le A350.lt sq352)) Fp352 V352 ge_b350 f361 Fn352 (by decide) ge_b345 (Ne.symm ne_b345_b350) (Ne.symm (Nat.ne_of_lt (Nat.lt_of_lt_of_le f353.lt sq352))) f362) rfl (by rw [hml]; rfl) pd_5 rfl (by decide) (W := 0) (Nat.le_refl _) (by decide) (by decide) (by decide) at_69 rfl rfl (fun v360 T360 L360 X360 hQ360 => ?_)
      obtain ⟨rfl, N360q, K360, Fp360, Fn360, V360, VL360⟩ := hQ360
      have hR360 := ((own_st3 _ hR0).2.2 _ (own_mem (own_rem x1 (3 : Int32) (by decide)).1 (own_rem x1 (3 : Int32) (by decide)).2) _ (own_mem (own_rem (x1.toUInt32 >>> ((8 : Int32) &&& 31).toUInt32).toInt32 (3 : Int32) (by decide)).1 (own_rem (x1.toUInt32 >>> ((8 : Int32) &&& 31).toUInt32).toInt32 (3 : Int32) (by decide)).2))
      dsimp only at hR360
      generalize own_jn _ _ _ = P360 at hR360 Fn360 V360
      generalize own_jc _ _ _ _ = c360 at hR360 Fn360
      generalize own_rl _ _ _ = ls360 at hR360 VL360
      obtain ⟨l0_360, l1_360, l2_360, l3_360, rfl⟩ := own_len4 (own_st3 _ hR360).2.1
      show Ends p.tables e below _ (T360.setTop (mkF m 72 #[.val (.int x0), .val (.int x1), .val (.int x2), .val (.int x3), .val (.int (3 : Int32)), .val (.int (((x0.toUInt32 >>> ((4 : Int32) &&& 31).toUInt32).toInt32) &&& (3 : Int32))), .val (.ref b345), .val (.ref b350), .unset] []))
      refine own_iload X360 hx hby at_72 rfl rfl ?_
      refine own_iconst X360 hx hby at_74 rfl (2 : Int32) rfl ?_
      refine own_icmp_lt X360 hx hby at_75 (pcY := 88) (pcN := 78) (by decide) rfl (fun (hc363 : (((x0.toUInt32 >>> ((4 : Int32) &&& 31).toUInt32).toInt32) &&& (3 : Int32)).toInt < 2) => ?_) (fun (hc363 : 2 ≤ (((x0.toUInt32 >>> ((4 : Int32) &&& 31).toUInt32).toInt32) &&& (3 : Int32)).toInt) => ?_)
      · -- pc 75: t
        refine own_iload X360 hx hby at_88 rfl rfl ?_
        refine own_iconst X360 hx hby at_90 rfl (3 : Int32) rfl ?_
        refine own_icmp_lt X360 hx hby at_91 (pcY := 104) (pcN := 94) (by decide) rfl (fun (hc364 : (((x0.toUInt32 >>> ((4 : Int32) &&& 31).toUInt32).toInt32) &&& (3 : Int32)).toInt < 3) => ?_) (fun (hc364 : 3 ≤ (((x0.toUInt32 >>> ((4 : Int32) &&& 31).toUInt32).toInt32) &&& (3 : Int32)).toInt) => False.elim (by omega))
        have f365 := (f361.keep K360)
        exact tail3 hx hby hml hown hret hlk hZ hw hR360 (by decide) (by decide) (Fr.app (Fr.app N349 N352q) N360q) f365 Fn360 VL360 X360 rfl
      · -- pc 75: f
        refine own_aload X360 hx hby at_78 rfl rfl rfl ?_
        refine own_aload X360 hx hby at_80 rfl rfl rfl ?_
        refine own_iloadN X360 hx hby at_82 rfl rfl ?_
        refine own_iload X360 hx hby at_83 rfl rfl ?_
        have f367 := (f361.keep K360)
        refine own_static X360 hx hby hZ (argsL := [(.ref b350), (.ref b345), (.int x2), (.int (3 : Int32))]) (rest := []) hown (hw _ tw_19) (hw _ tw_20) (hw _ tw_21) (hw _ tw_22) (by decide) (rm4 l Z a0 hw b350 b345 x2 (3 : Int32) T360.heap n0 (P := P360) own_ok3 (own_st3 _ hR360).1 (by decide) gq352 (Nat.ne_of_lt (Nat.lt_of_lt_of_le A350.lt sq352)) Fp360 V360 ge_b350 f367 Fn360 (by decide) ge_b345 (Ne.symm ne_b345_b350) (Ne.symm (Nat.ne_of_lt (Nat.lt_of_lt_of_le f353.lt sq352))) VL360) rfl (by rw [hml]; rfl) pd_5 rfl (by decide) (W := 0) (Nat.le_refl _) (by decide) (by decide) (by decide) at_85 rfl rfl (fun v366 T366 L366 X366 hQ366 => ?_)
        obtain ⟨rfl, N366q, K366, Fp366, Fn366, V366, VL366⟩ := hQ366
        have hR366 := ((own_st3 _ hR360).2.2 _ (own_mem (own_rem x2 (3 : Int32) (by decide)).1 (own_rem x2 (3 : Int32) (by decide)).2) _ (own_mem (own_rem (x2.toUInt32 >>> ((8 : Int32) &&& 31).toUInt32).toInt32 (3 : Int32) (by decide)).1 (own_rem (x2.toUInt32 >>> ((8 : Int32) &&& 31).toUInt32).toInt32 (3 : Int32) (by decide)).2))
        dsimp only at hR366
        generalize own_jn _ _ _ = P366 at hR366 Fn366 V366
        generalize own_jc _ _ _ _ = c366 at hR366 Fn366
        generalize own_rl _ _ _ = ls366 at hR366 VL366
        obtain ⟨l0_366, l1_366, l2_366, l3_366, rfl⟩ := own_len4 (own_st3 _ hR366).2.1
        show Ends p.tables e below _ (T366.setTop (mkF m 88 #[.val (.int x0), .val (.int x1), .val (.int x2), .val (.int x3), .val (.int (3 : Int32)), .val (.int (((x0.toUInt32 >>> ((4 : Int32) &&& 31).toUInt32).toInt32) &&& (3 : Int32))), .val (.ref b345), .val (.ref b350), .unset] []))
        refine own_iload X366 hx hby at_88 rfl rfl ?_
        refine own_iconst X366 hx hby at_90 rfl (3 : Int32) rfl ?_
        refine own_icmp_lt X366 hx hby at_91 (pcY := 104) (pcN := 94) (by decide) rfl (fun (hc368 : (((x0.toUInt32 >>> ((4 : Int32) &&& 31).toUInt32).toInt32) &&& (3 : Int32)).toInt < 3) => ?_) (fun (hc368 : 3 ≤ (((x0.toUInt32 >>> ((4 : Int32) &&& 31).toUInt32).toInt32) &&& (3 : Int32)).toInt) => ?_)
        · -- pc 91: t
          have f369 := (f367.keep K366)
          exact tail3 hx hby hml hown hret hlk hZ hw hR366 (by decide) (by decide) (Fr.app (Fr.app (Fr.app N349 N352q) N360q) N366q) f369 Fn366 VL366 X366 rfl
        · -- pc 91: f
          refine own_aload X366 hx hby at_94 rfl rfl rfl ?_
          refine own_aload X366 hx hby at_96 rfl rfl rfl ?_
          refine own_iloadN X366 hx hby at_98 rfl rfl ?_
          refine own_iload X366 hx hby at_99 rfl rfl ?_
          have f371 := (f367.keep K366)
          refine own_static X366 hx hby hZ (argsL := [(.ref b350), (.ref b345), (.int x3), (.int (3 : Int32))]) (rest := []) hown (hw _ tw_19) (hw _ tw_20) (hw _ tw_21) (hw _ tw_22) (by decide) (rm4 l Z a0 hw b350 b345 x3 (3 : Int32) T366.heap n0 (P := P366) own_ok3 (own_st3 _ hR366).1 (by decide) gq352 (Nat.ne_of_lt (Nat.lt_of_lt_of_le A350.lt sq352)) Fp366 V366 ge_b350 f371 Fn366 (by decide) ge_b345 (Ne.symm ne_b345_b350) (Ne.symm (Nat.ne_of_lt (Nat.lt_of_lt_of_le f353.lt sq352))) VL366) rfl (by rw [hml]; rfl) pd_5 rfl (by decide) (W := 0) (Nat.le_refl _) (by decide) (by decide) (by decide) at_101 rfl rfl (fun v370 T370 L370 X370 hQ370 => ?_)
          obtain ⟨rfl, N370q, K370, Fp370, Fn370, V370, VL370⟩ := hQ370
          have hR370 := ((own_st3 _ hR366).2.2 _ (own_mem (own_rem x3 (3 : Int32) (by decide)).1 (own_rem x3 (3 : Int32) (by decide)).2) _ (own_mem (own_rem (x3.toUInt32 >>> ((8 : Int32) &&& 31).toUInt32).toInt32 (3 : Int32) (by decide)).1 (own_rem (x3.toUInt32 >>> ((8 : Int32) &&& 31).toUInt32).toInt32 (3 : Int32) (by decide)).2))
          dsimp only at hR370
          generalize own_jn _ _ _ = P370 at hR370 Fn370 V370
          generalize own_jc _ _ _ _ = c370 at hR370 Fn370
          generalize own_rl _ _ _ = ls370 at hR370 VL370
          obtain ⟨l0_370, l1_370, l2_370, l3_370, rfl⟩ := own_len4 (own_st3 _ hR370).2.1
          show Ends p.tables e below _ (T370.setTop (mkF m 104 #[.val (.int x0), .val (.int x1), .val (.int x2), .val (.int x3), .val (.int (3 : Int32)), .val (.int (((x0.toUInt32 >>> ((4 : Int32) &&& 31).toUInt32).toInt32) &&& (3 : Int32))), .val (.ref b345), .val (.ref b350), .unset] []))
          have f372 := (f371.keep K370)
          exact tail3 hx hby hml hown hret hlk hZ hw hR370 (by decide) (by decide) (Fr.app (Fr.app (Fr.app (Fr.app N349 N352q) N360q) N366q) N370q) f372 Fn370 VL370 X370 rfl
  · -- n = 4
    rw [hz]
    show Ends p.tables e below _ (s₁.setTop (mkF m 8 #[.val (.int x0), .val (.int x1), .val (.int x2), .val (.int x3), .val (.int (4 : Int32)), .unset, .unset, .unset, .unset] []))
    refine own_iload X0 hx hby at_8 rfl rfl ?_
    refine own_if_ne X0 hx hby at_10 (pcY := 17) (pcN := 13) (by decide) rfl (fun (hc373 : ¬ (4 : Int32) = (0 : Int32)) => ?_) (fun (hc373 : (4 : Int32) = (0 : Int32)) => False.elim (by exact absurd hc373 (by decide)))
    refine own_iloadN X0 hx hby at_17 rfl rfl ?_
    refine own_iconst X0 hx hby at_18 rfl (4 : Int32) rfl ?_
    refine own_iushr X0 hx hby at_19 rfl ?_
    refine own_iconst X0 hx hby at_20 rfl (3 : Int32) rfl ?_
    refine own_iand X0 hx hby at_21 rfl ?_
    refine own_istore X0 hx hby at_22 rfl #[.val (.int x0), .val (.int x1), .val (.int x2), .val (.int x3), .val (.int (4 : Int32)), .val (.int (((x0.toUInt32 >>> ((4 : Int32) &&& 31).toUInt32).toInt32) &&& (3 : Int32))), .unset, .unset, .unset] rfl ?_
    refine own_iconst X0 hx hby at_24 rfl (4 : Int32) rfl ?_
    refine own_newarray X0 hx hby hZ (aty := .int) (hw _ tw_0) e0 (by decide) 4 (by decide) (by decide) (by decide) (by decide) .int rfl [(.int (0 : Int32)), (.int (0 : Int32)), (.int (0 : Int32)), (.int (0 : Int32))] rfl at_25 rfl (fun T374 h374 b374 k374 X374 e374 g374 E374 V374 => ?_)
    have ge_b374 : n0 ≤ b374 := own_ge O g374
    refine own_dup X374 hx hby at_27 rfl rfl ?_
    refine own_iconst X374 hx hby at_28 rfl (0 : Int32) rfl ?_
    refine own_iconst X374 hx hby at_29 rfl (0 : Int32) rfl ?_
    refine own_iastore X374 hx hby hZ (0 : Int32) rfl e374 V374 (by decide) 0 rfl (show 0 < 4 by decide) [(.int (0 : Int32)), (.int (0 : Int32)), (.int (0 : Int32)), (.int (0 : Int32))] rfl rfl N0 ge_b374 at_30 rfl (fun T375 h375 L375 X375 e375 W375 V375 N375 => ?_)
    refine own_dup X375 hx hby at_31 rfl rfl ?_
    refine own_iconst X375 hx hby at_32 rfl (1 : Int32) rfl ?_
    refine own_iconst X375 hx hby at_33 rfl (1 : Int32) rfl ?_
    refine own_iastore X375 hx hby hZ (1 : Int32) rfl e375 V375 (by decide) 1 rfl (show 1 < 4 by decide) [(.int (0 : Int32)), (.int (1 : Int32)), (.int (0 : Int32)), (.int (0 : Int32))] rfl rfl N375 ge_b374 at_34 rfl (fun T376 h376 L376 X376 e376 W376 V376 N376 => ?_)
    refine own_dup X376 hx hby at_35 rfl rfl ?_
    refine own_iconst X376 hx hby at_36 rfl (2 : Int32) rfl ?_
    refine own_iconst X376 hx hby at_37 rfl (2 : Int32) rfl ?_
    refine own_iastore X376 hx hby hZ (2 : Int32) rfl e376 V376 (by decide) 2 rfl (show 2 < 4 by decide) [(.int (0 : Int32)), (.int (1 : Int32)), (.int (2 : Int32)), (.int (0 : Int32))] rfl rfl N376 ge_b374 at_38 rfl (fun T377 h377 L377 X377 e377 W377 V377 N377 => ?_)
    refine own_dup X377 hx hby at_39 rfl rfl ?_
    refine own_iconst X377 hx hby at_40 rfl (3 : Int32) rfl ?_
    refine own_iconst X377 hx hby at_41 rfl (3 : Int32) rfl ?_
    refine own_iastore X377 hx hby hZ (3 : Int32) rfl e377 V377 (by decide) 3 rfl (show 3 < 4 by decide) [(.int (0 : Int32)), (.int (1 : Int32)), (.int (2 : Int32)), (.int (3 : Int32))] rfl rfl N377 ge_b374 at_42 rfl (fun T378 h378 L378 X378 e378 W378 V378 N378 => ?_)
    refine own_astore X378 hx hby at_43 rfl #[.val (.int x0), .val (.int x1), .val (.int x2), .val (.int x3), .val (.int (4 : Int32)), .val (.int (((x0.toUInt32 >>> ((4 : Int32) &&& 31).toUInt32).toInt32) &&& (3 : Int32))), .val (.ref b374), .unset, .unset] rfl rfl ?_
    have f380 := (((((O.ext E374).wr W375 ge_b374).wr W376 ge_b374).wr W377 ge_b374).wr W378 ge_b374)
    refine own_new X378 hx hby hZ hown (hw _ tw_1) (hw _ tw_2) (hw _ tw_3) e378 (by decide) (by decide) at_45 rfl (fun T379 h379 b379 X379 e379 g379 E379 A379 D379 => ?_)
    have ge_b379 : n0 ≤ b379 := own_ge f380 g379
    have ne_b374_b379 : b374 ≠ b379 := own_lt V378.lt g379
    have F379_parent : Fld Z h379 b379 "com/example/weftwork/weftwork/model/Components" "parent" "[I" .null := D379 (Or.inr (hw _ tw_11)) (ty := (.array .int)) (by decide)
    have F379_count : Fld Z h379 b379 "com/example/weftwork/weftwork/model/Components" "count" "I" (.int (0 : Int32)) := D379 (Or.inl (hw _ tw_13)) (ty := .int) (by decide)
    refine own_dup X379 hx hby at_48 rfl rfl ?_
    refine own_iload X379 hx hby at_49 rfl rfl ?_
    have f382 := (V378.ext E379)
    have f383 := (f380.ext E379)
    refine own_special X379 hx hby hZ (a := b379) (argsL := [(.int (4 : Int32))]) (rest := [(.ref b379)]) hown rfl (hw _ tw_4) (hw _ tw_5) (hw _ tw_3) (hw _ tw_6) (by decide) (rm1_4 l Z a0 hw b379 h379 n0 f383 ge_b379 A379 F379_parent F379_count) e379 (by rw [hml]; rfl) pd_4 rfl (by decide) (W := 1) (Nat.le_refl _) (by decide) (by decide) (by decide) at_51 rfl rfl (fun v381 T381 L381 X381 hQ381 => ?_)
    obtain ⟨rfl, N381q, K381, pa381, kp381, Fp381, sq381, gq381, Fn381, V381⟩ := hQ381
    show Ends p.tables e below _ (T381.setTop (mkF m 54 #[.val (.int x0), .val (.int x1), .val (.int x2), .val (.int x3), .val (.int (4 : Int32)), .val (.int (((x0.toUInt32 >>> ((4 : Int32) &&& 31).toUInt32).toInt32) &&& (3 : Int32))), .val (.ref b374), .unset, .unset] [(.ref b379)]))
    refine own_astore X381 hx hby at_54 rfl #[.val (.int x0), .val (.int x1), .val (.int x2), .val (.int x3), .val (.int (4 : Int32)), .val (.int (((x0.toUInt32 >>> ((4 : Int32) &&& 31).toUInt32).toInt32) &&& (3 : Int32))), .val (.ref b374), .val (.ref b379), .unset] rfl rfl ?_
    have hR0 : (([0, 1, 2, 3], 4, [0, 1, 2, 3]) : OwnT) ∈ own_R4 := by decide +kernel
    refine own_iload X381 hx hby at_56 rfl rfl ?_
    refine own_iconst X381 hx hby at_58 rfl (1 : Int32) rfl ?_
    refine own_icmp_lt X381 hx hby at_59 (pcY := 72) (pcN := 62) (by decide) rfl (fun (hc384 : (((x0.toUInt32 >>> ((4 : Int32) &&& 31).toUInt32).toInt32) &&& (3 : Int32)).toInt < 1) => ?_) (fun (hc384 : 1 ≤ (((x0.toUInt32 >>> ((4 : Int32) &&& 31).toUInt32).toInt32) &&& (3 : Int32)).toInt) => ?_)
    · -- pc 59: t
      refine own_iload X381 hx hby at_72 rfl rfl ?_
      refine own_iconst X381 hx hby at_74 rfl (2 : Int32) rfl ?_
      refine own_icmp_lt X381 hx hby at_75 (pcY := 88) (pcN := 78) (by decide) rfl (fun (hc385 : (((x0.toUInt32 >>> ((4 : Int32) &&& 31).toUInt32).toInt32) &&& (3 : Int32)).toInt < 2) => ?_) (fun (hc385 : 2 ≤ (((x0.toUInt32 >>> ((4 : Int32) &&& 31).toUInt32).toInt32) &&& (3 : Int32)).toInt) => False.elim (by omega))
      refine own_iload X381 hx hby at_88 rfl rfl ?_
      refine own_iconst X381 hx hby at_90 rfl (3 : Int32) rfl ?_
      refine own_icmp_lt X381 hx hby at_91 (pcY := 104) (pcN := 94) (by decide) rfl (fun (hc386 : (((x0.toUInt32 >>> ((4 : Int32) &&& 31).toUInt32).toInt32) &&& (3 : Int32)).toInt < 3) => ?_) (fun (hc386 : 3 ≤ (((x0.toUInt32 >>> ((4 : Int32) &&& 31).toUInt32).toInt32) &&& (3 : Int32)).toInt) => False.elim (by omega))
      have f387 := (A379.keep K381)
      have f388 := (f382.keep K381 (ninS ne_b374_b379 nin0))
      exact tail4 hx hby hml hown hret hlk hZ hw hR0 (by decide) (by decide) (Fr.app N378 N381q) f387 Fn381 f388 X381 rfl
    · -- pc 59: f
      refine own_aload X381 hx hby at_62 rfl rfl rfl ?_
      refine own_aload X381 hx hby at_64 rfl rfl rfl ?_
      refine own_iloadN X381 hx hby at_66 rfl rfl ?_
      refine own_iload X381 hx hby at_67 rfl rfl ?_
      have f390 := (A379.keep K381)
      have f391 := (f382.keep K381 (ninS ne_b374_b379 nin0))
      refine own_static X381 hx hby hZ (argsL := [(.ref b379), (.ref b374), (.int x1), (.int (4 : Int32))]) (rest := []) hown (hw _ tw_19) (hw _ tw_20) (hw _ tw_21) (hw _ tw_22) (by decide) (rm4 l Z a0 hw b379 b374 x1 (4 : Int32) T381.heap n0 (P := [0, 1, 2, 3]) own_ok4 (own_st4 _ hR0).1 (by decide) gq381 (Nat.ne_of_lt (Nat.lt_of_lt_of_le A379.lt sq381)) Fp381 V381 ge_b379 f390 Fn381 (by decide) ge_b374 (Ne.symm ne_b374_b379) (Ne.symm (Nat.ne_of_lt (Nat.lt_of_lt_of_le f382.lt sq381))) f391) rfl (by rw [hml]; rfl) pd_5 rfl (by decide) (W := 0) (Nat.le_refl _) (by decide) (by decide) (by decide) at_69 rfl rfl (fun v389 T389 L389 X389 hQ389 => ?_)
      obtain ⟨rfl, N389q, K389, Fp389, Fn389, V389, VL389⟩ := hQ389
      have hR389 := ((own_st4 _ hR0).2.2 _ (own_mem (own_rem x1 (4 : Int32) (by decide)).1 (own_rem x1 (4 : Int32) (by decide)).2) _ (own_mem (own_rem (x1.toUInt32 >>> ((8 : Int32) &&& 31).toUInt32).toInt32 (4 : Int32) (by decide)).1 (own_rem (x1.toUInt32 >>> ((8 : Int32) &&& 31).toUInt32).toInt32 (4 : Int32) (by decide)).2))
      dsimp only at hR389
      generalize own_jn _ _ _ = P389 at hR389 Fn389 V389
      generalize own_jc _ _ _ _ = c389 at hR389 Fn389
      generalize own_rl _ _ _ = ls389 at hR389 VL389
      obtain ⟨l0_389, l1_389, l2_389, l3_389, rfl⟩ := own_len4 (own_st4 _ hR389).2.1
      show Ends p.tables e below _ (T389.setTop (mkF m 72 #[.val (.int x0), .val (.int x1), .val (.int x2), .val (.int x3), .val (.int (4 : Int32)), .val (.int (((x0.toUInt32 >>> ((4 : Int32) &&& 31).toUInt32).toInt32) &&& (3 : Int32))), .val (.ref b374), .val (.ref b379), .unset] []))
      refine own_iload X389 hx hby at_72 rfl rfl ?_
      refine own_iconst X389 hx hby at_74 rfl (2 : Int32) rfl ?_
      refine own_icmp_lt X389 hx hby at_75 (pcY := 88) (pcN := 78) (by decide) rfl (fun (hc392 : (((x0.toUInt32 >>> ((4 : Int32) &&& 31).toUInt32).toInt32) &&& (3 : Int32)).toInt < 2) => ?_) (fun (hc392 : 2 ≤ (((x0.toUInt32 >>> ((4 : Int32) &&& 31).toUInt32).toInt32) &&& (3 : Int32)).toInt) => ?_)
      · -- pc 75: t
        refine own_iload X389 hx hby at_88 rfl rfl ?_
        refine own_iconst X389 hx hby at_90 rfl (3 : Int32) rfl ?_
        refine own_icmp_lt X389 hx hby at_91 (pcY := 104) (pcN := 94) (by decide) rfl (fun (hc393 : (((x0.toUInt32 >>> ((4 : Int32) &&& 31).toUInt32).toInt32) &&& (3 : Int32)).toInt < 3) => ?_) (fun (hc393 : 3 ≤ (((x0.toUInt32 >>> ((4 : Int32) &&& 31).toUInt32).toInt32) &&& (3 : Int32)).toInt) => False.elim (by omega))
        have f394 := (f390.keep K389)
        exact tail4 hx hby hml hown hret hlk hZ hw hR389 (by decide) (by decide) (Fr.app (Fr.app N378 N381q) N389q) f394 Fn389 VL389 X389 rfl
      · -- pc 75: f
        refine own_aload X389 hx hby at_78 rfl rfl rfl ?_
        refine own_aload X389 hx hby at_80 rfl rfl rfl ?_
        refine own_iloadN X389 hx hby at_82 rfl rfl ?_
        refine own_iload X389 hx hby at_83 rfl rfl ?_
        have f396 := (f390.keep K389)
        refine own_static X389 hx hby hZ (argsL := [(.ref b379), (.ref b374), (.int x2), (.int (4 : Int32))]) (rest := []) hown (hw _ tw_19) (hw _ tw_20) (hw _ tw_21) (hw _ tw_22) (by decide) (rm4 l Z a0 hw b379 b374 x2 (4 : Int32) T389.heap n0 (P := P389) own_ok4 (own_st4 _ hR389).1 (by decide) gq381 (Nat.ne_of_lt (Nat.lt_of_lt_of_le A379.lt sq381)) Fp389 V389 ge_b379 f396 Fn389 (by decide) ge_b374 (Ne.symm ne_b374_b379) (Ne.symm (Nat.ne_of_lt (Nat.lt_of_lt_of_le f382.lt sq381))) VL389) rfl (by rw [hml]; rfl) pd_5 rfl (by decide) (W := 0) (Nat.le_refl _) (by decide) (by decide) (by decide) at_85 rfl rfl (fun v395 T395 L395 X395 hQ395 => ?_)
        obtain ⟨rfl, N395q, K395, Fp395, Fn395, V395, VL395⟩ := hQ395
        have hR395 := ((own_st4 _ hR389).2.2 _ (own_mem (own_rem x2 (4 : Int32) (by decide)).1 (own_rem x2 (4 : Int32) (by decide)).2) _ (own_mem (own_rem (x2.toUInt32 >>> ((8 : Int32) &&& 31).toUInt32).toInt32 (4 : Int32) (by decide)).1 (own_rem (x2.toUInt32 >>> ((8 : Int32) &&& 31).toUInt32).toInt32 (4 : Int32) (by decide)).2))
        dsimp only at hR395
        generalize own_jn _ _ _ = P395 at hR395 Fn395 V395
        generalize own_jc _ _ _ _ = c395 at hR395 Fn395
        generalize own_rl _ _ _ = ls395 at hR395 VL395
        obtain ⟨l0_395, l1_395, l2_395, l3_395, rfl⟩ := own_len4 (own_st4 _ hR395).2.1
        show Ends p.tables e below _ (T395.setTop (mkF m 88 #[.val (.int x0), .val (.int x1), .val (.int x2), .val (.int x3), .val (.int (4 : Int32)), .val (.int (((x0.toUInt32 >>> ((4 : Int32) &&& 31).toUInt32).toInt32) &&& (3 : Int32))), .val (.ref b374), .val (.ref b379), .unset] []))
        refine own_iload X395 hx hby at_88 rfl rfl ?_
        refine own_iconst X395 hx hby at_90 rfl (3 : Int32) rfl ?_
        refine own_icmp_lt X395 hx hby at_91 (pcY := 104) (pcN := 94) (by decide) rfl (fun (hc397 : (((x0.toUInt32 >>> ((4 : Int32) &&& 31).toUInt32).toInt32) &&& (3 : Int32)).toInt < 3) => ?_) (fun (hc397 : 3 ≤ (((x0.toUInt32 >>> ((4 : Int32) &&& 31).toUInt32).toInt32) &&& (3 : Int32)).toInt) => ?_)
        · -- pc 91: t
          have f398 := (f396.keep K395)
          exact tail4 hx hby hml hown hret hlk hZ hw hR395 (by decide) (by decide) (Fr.app (Fr.app (Fr.app N378 N381q) N389q) N395q) f398 Fn395 VL395 X395 rfl
        · -- pc 91: f
          refine own_aload X395 hx hby at_94 rfl rfl rfl ?_
          refine own_aload X395 hx hby at_96 rfl rfl rfl ?_
          refine own_iloadN X395 hx hby at_98 rfl rfl ?_
          refine own_iload X395 hx hby at_99 rfl rfl ?_
          have f400 := (f396.keep K395)
          refine own_static X395 hx hby hZ (argsL := [(.ref b379), (.ref b374), (.int x3), (.int (4 : Int32))]) (rest := []) hown (hw _ tw_19) (hw _ tw_20) (hw _ tw_21) (hw _ tw_22) (by decide) (rm4 l Z a0 hw b379 b374 x3 (4 : Int32) T395.heap n0 (P := P395) own_ok4 (own_st4 _ hR395).1 (by decide) gq381 (Nat.ne_of_lt (Nat.lt_of_lt_of_le A379.lt sq381)) Fp395 V395 ge_b379 f400 Fn395 (by decide) ge_b374 (Ne.symm ne_b374_b379) (Ne.symm (Nat.ne_of_lt (Nat.lt_of_lt_of_le f382.lt sq381))) VL395) rfl (by rw [hml]; rfl) pd_5 rfl (by decide) (W := 0) (Nat.le_refl _) (by decide) (by decide) (by decide) at_101 rfl rfl (fun v399 T399 L399 X399 hQ399 => ?_)
          obtain ⟨rfl, N399q, K399, Fp399, Fn399, V399, VL399⟩ := hQ399
          have hR399 := ((own_st4 _ hR395).2.2 _ (own_mem (own_rem x3 (4 : Int32) (by decide)).1 (own_rem x3 (4 : Int32) (by decide)).2) _ (own_mem (own_rem (x3.toUInt32 >>> ((8 : Int32) &&& 31).toUInt32).toInt32 (4 : Int32) (by decide)).1 (own_rem (x3.toUInt32 >>> ((8 : Int32) &&& 31).toUInt32).toInt32 (4 : Int32) (by decide)).2))
          dsimp only at hR399
          generalize own_jn _ _ _ = P399 at hR399 Fn399 V399
          generalize own_jc _ _ _ _ = c399 at hR399 Fn399
          generalize own_rl _ _ _ = ls399 at hR399 VL399
          obtain ⟨l0_399, l1_399, l2_399, l3_399, rfl⟩ := own_len4 (own_st4 _ hR399).2.1
          show Ends p.tables e below _ (T399.setTop (mkF m 104 #[.val (.int x0), .val (.int x1), .val (.int x2), .val (.int x3), .val (.int (4 : Int32)), .val (.int (((x0.toUInt32 >>> ((4 : Int32) &&& 31).toUInt32).toInt32) &&& (3 : Int32))), .val (.ref b374), .val (.ref b379), .unset] []))
          have f401 := (f400.keep K399)
          exact tail4 hx hby hml hown hret hlk hZ hw hR399 (by decide) (by decide) (Fr.app (Fr.app (Fr.app (Fr.app N378 N381q) N389q) N395q) N399q) f401 Fn399 VL399 X399 rfl
set_option maxRecDepth 65536 in
set_option maxHeartbeats 40000000 in
theorem comes_1 {Post : Tables → Env → Array Value → State → Outcome → State → Prop} (hpost : ∀ tb e args s v u, (limb_1_1.after args s (.returned v) u = true ∧ limb_1_2.after args s (.returned v) u = true ∧ True) → FrameEnd s (.returned v) u (Jvm.fieldLocs frame_1_writes args s ++ Jvm.arrayLocs frame_1_arrays args s ++ Jvm.staticLocs frame_1_statics s) 16 128 → Post tb e args s (.returned v) u) :
    ArmFor flags0 classFile x code maxLocals ret World_1 tables_1 room_1 Calls_1 rest_1 Pre_1 Post := by
  intro l hfl _ _ p e ha hc hk s m args below hf hA hF happ hP
  obtain ⟨hcalls, hrest, hpre⟩ := hP
  obtain ⟨-, -, -, hnamed, -, -, -, hat⟩ := (Spec.applies_iff hf).mp happ
  obtain ⟨hg, hn⟩ := and_e (Cond.before_iff.mp (show (Jvm.Cond.and given_1 narrow_1).before args s = true from hpre))
  obtain ⟨hcount, hg0⟩ := and_e hg
  obtain ⟨hv0, hg1⟩ := and_e hg0
  obtain ⟨hv1, hg2⟩ := and_e hg1
  obtain ⟨hv2, hg3⟩ := and_e hg2
  have hv3 := hg3
  obtain ⟨w0, w1, w2, w3, rfl⟩ : ∃ w0 w1 w2 w3 : Value, args = #[w0, w1, w2, w3] := by
    have hs : args.size = 4 := by simpa [Cond.value, given_1] using hcount
    obtain ⟨L⟩ := args
    match L, hs with
    | [w0, w1, w2, w3], _ => exact ⟨w0, w1, w2, w3, rfl⟩
  have hw := fun d (hd : d ∈ tables_1) => atoms_spec (ws := Jvm.Cond.code x code maxLocals ret :: tables_1) hat d (List.mem_cons_of_mem _ hd)
  have hfit : Fit s := fun {y c} hc i hi => by
    obtain ⟨ha, rfl⟩ := Array.getElem?_eq_some_iff.mp hc
    have q := List.all_eq_true.mp ((Array.all_eq_true_iff_forall_mem.mp hF) _ (Array.getElem_mem ha)) i (List.mem_range.mpr hi)
    simpa [Array.getElem?_eq_getElem hi] using q
  obtain ⟨i0, ei0⟩ := is_v hv0
  obtain rfl : w0 = (.int i0) := Option.some.inj ei0
  obtain ⟨i1, ei1⟩ := is_v hv1
  obtain rfl : w1 = (.int i1) := Option.some.inj ei1
  obtain ⟨i2, ei2⟩ := is_v hv2
  obtain rfl : w2 = (.int i2) := Option.some.inj ei2
  obtain ⟨i3, ei3⟩ := is_v hv3
  obtain rfl : w3 = (.int i3) := Option.some.inj ei3
  obtain ⟨n, o, h1, h2, h3, _, L, rfl, ⟨rfl, N⟩, hq⟩ := rm0 l s _ hw i0 i1 i2 i3 s.heap s.heap.size (Old.start s) p e ha hc hk s m _ below hf ((Spec.applies_iff_loose hf).mp happ).1 ⟨rfl, State.Warmed39.refl s, rfl⟩ trivial
  refine ⟨n, _, h1, h2, h3, hpost _ _ _ _ _ _ ⟨Cond.after_iff.mpr rfl, Cond.after_iff.mpr (eq_i res_at (Term.int_eval (1)) rfl), trivial⟩ ⟨hq.1, hq.2.1, (hq.2.2.sift fun y hy => Or.inr (N y hy)).mono (by decide) (by decide)⟩⟩
theorem main_1_1 : Claimed_1_1 := comes_1 fun _ _ _ _ _ _ h hF => ⟨h.1, hF⟩
theorem main_1_2 : Claimed_1_2 := comes_1 fun _ _ _ _ _ _ h hF => ⟨h.2.1, hF⟩
end Jvm.Pilot.@@N@@
namespace Jvm.Pilot.@@N@@
open Jvm Jvm.ClassFile Sem Op Lib Jvm.Free Jvm.Stand Jvm.Pilot.@@N@@.Jvm.D
/-! MADE BY PROGRAM (witnessworld.py) out of the Statement's table words and the real class files: 10 classes; the members and pool entries that the words name. The judged class is class 1, her method 1. -/
namespace start1
open Jvm.ClassFile
def u (s : String) : CpInfo := .utf8 (stringToUtf16 s)
/-- a pool by its gaps: so many unusable entries, then the entry; so many at the end -/
def gap : Nat → List CpInfo → List CpInfo
  | 0, r => r
  | n + 1, r => .unusable :: gap n r
def poolList (es : List (Nat × CpInfo)) (last : Nat) : List CpInfo := es.foldr (fun e r => gap e.1 (e.2 :: r)) (gap last [])
def pool (es : List (Nat × CpInfo)) (last : Nat) : Array CpInfo := ⟨poolList es last⟩
def fileOf (pool : Array CpInfo) (this : Nat) (attrs : Array Attribute := #[]) (ms : Array MethodInfo := #[]) (fl : Nat := 33) (sup : Nat := 0) (ifs : Array Nat := #[]) (fds : Array FieldInfo := #[]) : ClassFile where
  minorVersion := 0
  majorVersion := 65
  constantPool := pool
  accessFlags := fl
  thisClass := this
  superClass := sup
  interfaces := ifs
  fields := fds
  methods := ms
  attributes := attrs
def plain (name : String) (sup : Option ClassId) : Class where
  name := name
  kind := .ordinary
  loader := none
  accessFlags := 33
  super := sup
  interfaces := #[]
  cf := none
  fields := #[]
  methods := #[]
  instanceTypes := #[]
  staticTypes := #[]
  resolved := #[]
  callSites := []
  init := .initialized
  statics := none
  mirror := none

def pool0 : Array CpInfo := pool [(5, u "<init>"), (0, u "()V"), (1, .class_ 10), (1, u "java/lang/Object")] 113

def k0c0 : Code := { maxStack := 0, maxLocals := 1, code := object_method_1_code, exceptionTable := #[], attributes := #[] }
def k0m0 : Method := { name := "<init>", desc := "()V", sig := { parameters := [], returnType := none }, accessFlags := 1, code := some k0c0 }
/-- java/lang/Object -/
def k0 : Class := { plain "java/lang/Object" none with
  accessFlags := 33
  interfaces := #[]
  cf := some (fileOf pool0 8 #[] #[{ accessFlags := 1, nameIndex := 5, descriptorIndex := 6, attributes := #[] }] 33 0 #[] #[])
  fields := #[]
  methods := #[k0m0]
  instanceTypes := #[]
  staticTypes := #[]
  resolved := Array.replicate 124 none
  statics := none }

def pool1 : Array CpInfo := pool [(2, .class_ 4), (1, u "java/lang/Object"), (0, u "<init>"), (0, u "()V"), (0, .class_ 8), (0, u "com/example/weftwork/weftwork/model/Components"), (0, .methodref 7 10), (0, .nameAndType 5 11), (0, u "(I)V"), (0, .methodref 13 14), (0, .class_ 15), (0, .nameAndType 16 17), (0, u "com/example/weftwork/weftwork/model/ComponentsWholePinLaw"), (0, u "step"), (0, u "(Lcom/example/weftwork/weftwork/model/Components;[III)V"), (0, .methodref 7 19), (0, .nameAndType 20 21), (0, u "whole"), (0, u "()Z"), (0, .methodref 7 23), (0, .nameAndType 24 25), (0, u "join"), (0, u "(II)V"), (2, u "law"), (0, u "(IIII)Z")] 5

def k1m0 : Method := { name := "<init>", desc := "()V", sig := { parameters := [], returnType := none }, accessFlags := 1, code := none }
def k1c1 : Code := { maxStack := 4, maxLocals := 9, code := code, exceptionTable := #[], attributes := #[] }
def k1m1 : Method := { name := "law", desc := "(IIII)Z", sig := { parameters := [.int, .int, .int, .int], returnType := some .boolean }, accessFlags := 9, code := some k1c1 }
def k1c2 : Code := { maxStack := 3, maxLocals := 8, code := method_3_code, exceptionTable := #[], attributes := #[] }
def k1m2 : Method := { name := "step", desc := "(Lcom/example/weftwork/weftwork/model/Components;[III)V", sig := { parameters := [(.object "com/example/weftwork/weftwork/model/Components"), (.array .int), .int, .int], returnType := none }, accessFlags := 10, code := some k1c2 }
/-- com/example/weftwork/weftwork/model/ComponentsWholePinLaw -/
def k1 : Class := { plain "com/example/weftwork/weftwork/model/ComponentsWholePinLaw" (some 0) with
  accessFlags := 49
  interfaces := #[]
  cf := some (fileOf pool1 13 #[] #[{ accessFlags := 1, nameIndex := 5, descriptorIndex := 6, attributes := #[] }, { accessFlags := 9, nameIndex := 28, descriptorIndex := 29, attributes := #[] }, { accessFlags := 10, nameIndex := 16, descriptorIndex := 17, attributes := #[] }] 49 2 #[] #[])
  fields := #[]
  methods := #[k1m0, k1m1, k1m2]
  instanceTypes := #[]
  staticTypes := #[]
  resolved := Array.replicate 35 none
  statics := none }

def pool2 : Array CpInfo := pool [(1, .methodref 2 3), (0, .class_ 4), (0, .nameAndType 5 6), (0, u "java/lang/Object"), (0, u "<init>"), (0, u "()V"), (0, .fieldref 8 9), (0, .class_ 10), (0, .nameAndType 11 12), (0, u "com/example/weftwork/weftwork/model/Components"), (0, u "parent"), (0, u "[I"), (0, .fieldref 8 14), (0, .nameAndType 15 16), (0, u "count"), (0, u "I"), (0, .methodref 8 18), (0, .nameAndType 19 20), (0, u "root"), (0, u "(I)I"), (0, .methodref 22 23), (0, .class_ 24), (0, .nameAndType 25 26), (0, u "java/lang/Math"), (0, u "max"), (0, u "(II)I"), (0, .methodref 22 28), (0, .nameAndType 29 26), (0, u "min"), (32, u "()Z"), (24, u "(I)V"), (3, u "join"), (0, u "(II)V"), (0, u "whole")] 29

def k2c0 : Code := { maxStack := 3, maxLocals := 3, code := prog_43_method_1_code, exceptionTable := #[], attributes := #[] }
def k2m0 : Method := { name := "<init>", desc := "(I)V", sig := { parameters := [.int], returnType := none }, accessFlags := 0, code := some k2c0 }
def k2c1 : Code := { maxStack := 4, maxLocals := 5, code := prog_43_method_2_code, exceptionTable := #[], attributes := #[] }
def k2m1 : Method := { name := "join", desc := "(II)V", sig := { parameters := [.int, .int], returnType := none }, accessFlags := 0, code := some k2c1 }
def k2c2 : Code := { maxStack := 2, maxLocals := 1, code := prog_43_method_3_code, exceptionTable := #[], attributes := #[] }
def k2m2 : Method := { name := "whole", desc := "()Z", sig := { parameters := [], returnType := some .boolean }, accessFlags := 0, code := some k2c2 }
def k2c3 : Code := { maxStack := 3, maxLocals := 4, code := prog_43_method_5_code, exceptionTable := #[], attributes := #[] }
def k2m3 : Method := { name := "root", desc := "(I)I", sig := { parameters := [.int], returnType := some .int }, accessFlags := 2, code := some k2c3 }
/-- com/example/weftwork/weftwork/model/Components -/
def k2 : Class := { plain "com/example/weftwork/weftwork/model/Components" (some 0) with
  accessFlags := 48
  interfaces := #[]
  cf := some (fileOf pool2 8 #[] #[{ accessFlags := 0, nameIndex := 5, descriptorIndex := 87, attributes := #[] }, { accessFlags := 0, nameIndex := 91, descriptorIndex := 92, attributes := #[] }, { accessFlags := 0, nameIndex := 93, descriptorIndex := 62, attributes := #[] }, { accessFlags := 2, nameIndex := 19, descriptorIndex := 20, attributes := #[] }] 48 2 #[] #[{ accessFlags := 18, nameIndex := 11, descriptorIndex := 12, attributes := #[] }, { accessFlags := 2, nameIndex := 15, descriptorIndex := 16, attributes := #[] }])
  fields := #[{ name := "parent", type := (.array .int), accessFlags := 18, slot := 0, constantValue := 0 }, { name := "count", type := .int, accessFlags := 2, slot := 1, constantValue := 0 }]
  methods := #[k2m0, k2m1, k2m2, k2m3]
  instanceTypes := #[(.array .int), .int]
  staticTypes := #[]
  resolved := Array.replicate 123 none
  statics := none }

def pool3 : Array CpInfo := pool [(1, .class_ 2), (0, u "java/lang/Math"), (1, .class_ 6), (1, u "java/lang/Object"), (0, u "<init>"), (0, u "()V"), (89, .class_ 100), (1, u "java/lang/Math$RandomNumberGeneratorHolder"), (71, u "negativeZeroFloatBits"), (0, u "J"), (2, u "negativeZeroDoubleBits"), (21, u "max"), (2, u "min"), (43, u "$assertionsDisabled"), (0, u "Z"), (88, u "(II)I"), (2, u "twoToTheDoubleScaleDown"), (0, u "D"), (4, u "twoToTheDoubleScaleUp"), (9, u "E"), (3, u "PI"), (2, u "TAU"), (2, u "DEGREES_TO_RADIANS"), (0, u "RADIANS_TO_DEGREES")] 94

def k3m0 : Method := { name := "<init>", desc := "()V", sig := { parameters := [], returnType := none }, accessFlags := 2, code := none }
def k3c1 : Code := { maxStack := 2, maxLocals := 2, code := jdk_29_method_65_code, exceptionTable := #[], attributes := #[] }
def k3m1 : Method := { name := "max", desc := "(II)I", sig := { parameters := [.int, .int], returnType := some .int }, accessFlags := 9, code := some k3c1 }
def k3c2 : Code := { maxStack := 2, maxLocals := 2, code := jdk_29_method_69_code, exceptionTable := #[], attributes := #[] }
def k3m2 : Method := { name := "min", desc := "(II)I", sig := { parameters := [.int, .int], returnType := some .int }, accessFlags := 9, code := some k3c2 }
/-- java/lang/Math -/
def k3 : Class := { plain "java/lang/Math" (some 0) with
  accessFlags := 49
  interfaces := #[]
  cf := some (fileOf pool3 1 #[.nestMembers #[98]] #[{ accessFlags := 2, nameIndex := 7, descriptorIndex := 8, attributes := #[] }, { accessFlags := 9, nameIndex := 198, descriptorIndex := 335, attributes := #[] }, { accessFlags := 9, nameIndex := 201, descriptorIndex := 335, attributes := #[] }] 49 4 #[] #[{ accessFlags := 25, nameIndex := 354, descriptorIndex := 339, attributes := #[] }, { accessFlags := 25, nameIndex := 358, descriptorIndex := 339, attributes := #[] }, { accessFlags := 25, nameIndex := 361, descriptorIndex := 339, attributes := #[] }, { accessFlags := 26, nameIndex := 364, descriptorIndex := 339, attributes := #[] }, { accessFlags := 26, nameIndex := 365, descriptorIndex := 339, attributes := #[] }, { accessFlags := 26, nameIndex := 172, descriptorIndex := 173, attributes := #[] }, { accessFlags := 26, nameIndex := 176, descriptorIndex := 173, attributes := #[] }, { accessFlags := 8, nameIndex := 344, descriptorIndex := 339, attributes := #[] }, { accessFlags := 8, nameIndex := 338, descriptorIndex := 339, attributes := #[] }, { accessFlags := 4120, nameIndex := 245, descriptorIndex := 246, attributes := #[] }])
  fields := #[{ name := "E", type := .double, accessFlags := 25, slot := 0, constantValue := 0 }, { name := "PI", type := .double, accessFlags := 25, slot := 1, constantValue := 0 }, { name := "TAU", type := .double, accessFlags := 25, slot := 2, constantValue := 0 }, { name := "DEGREES_TO_RADIANS", type := .double, accessFlags := 26, slot := 3, constantValue := 0 }, { name := "RADIANS_TO_DEGREES", type := .double, accessFlags := 26, slot := 4, constantValue := 0 }, { name := "negativeZeroFloatBits", type := .long, accessFlags := 26, slot := 5, constantValue := 0 }, { name := "negativeZeroDoubleBits", type := .long, accessFlags := 26, slot := 6, constantValue := 0 }, { name := "twoToTheDoubleScaleUp", type := .double, accessFlags := 8, slot := 7, constantValue := 0 }, { name := "twoToTheDoubleScaleDown", type := .double, accessFlags := 8, slot := 8, constantValue := 0 }, { name := "$assertionsDisabled", type := .boolean, accessFlags := 4120, slot := 9, constantValue := 0 }]
  methods := #[k3m0, k3m1, k3m2]
  instanceTypes := #[]
  staticTypes := #[.double, .double, .double, .double, .double, .long, .long, .double, .double, .boolean]
  resolved := Array.replicate 460 none
  statics := none }

def pool4 : Array CpInfo := pool [(1, u "java/lang/Cloneable"), (0, .class_ 1), (0, u "java/lang/Object"), (0, .class_ 3)] 3

/-- java/lang/Cloneable -/
def k4 : Class := { plain "java/lang/Cloneable" (some 0) with
  accessFlags := 1537
  interfaces := #[]
  cf := some (fileOf pool4 2 #[] #[] 1537 4 #[] #[])
  fields := #[]
  methods := #[]
  instanceTypes := #[]
  staticTypes := #[]
  resolved := Array.replicate 8 none
  statics := none }

def pool5 : Array CpInfo := pool [(1, u "java/io/Serializable"), (0, .class_ 1), (0, u "java/lang/Object"), (0, .class_ 3)] 3

/-- java/io/Serializable -/
def k5 : Class := { plain "java/io/Serializable" (some 0) with
  accessFlags := 1537
  interfaces := #[]
  cf := some (fileOf pool5 2 #[] #[] 1537 4 #[] #[])
  fields := #[]
  methods := #[]
  instanceTypes := #[]
  staticTypes := #[]
  resolved := Array.replicate 8 none
  statics := none }

/-- the primitive byte -/
def k6 : Class := { plain "byte" none with kind := .primitive 'B', accessFlags := 0x411 }
/-- [B -/
def k7 : Class := { plain "[B" (some 0) with kind := .array 6 .byte, interfaces := #[4, 5], accessFlags := 1041 }

/-- the primitive int -/
def k8 : Class := { plain "int" none with kind := .primitive 'I', accessFlags := 0x411 }
/-- [I -/
def k9 : Class := { plain "[I" (some 0) with kind := .array 8 .int, interfaces := #[4, 5], accessFlags := 1041 }

def heap : Heap := #[]
def classes : Array Class := #[k0, k1, k2, k3, k4, k5, k6, k7, k8, k9]
def interned : List (Array UInt16 × Addr) := []
def slotsUsed : Nat := 0
def theMethod : MethodId := ⟨1, 1⟩
def args0 : Array Value := #[.int 5, .int 5, .int 5, .int 5]
def aboutOver (below : List Frame) : State where
  vm := { classes := classes, interned := interned.toArray }
  heap := heap
  slotsUsed := slotsUsed
  threads := #[{ frames := .invoking theMethod args0 :: below }]
def below0 : List Frame := [.native { method := ⟨0, 0⟩, args := #[] }]
def about1 : State := aboutOver below0
def p0 : Program := .bare "" "" ""
def e0 : Env := launch0.env 0 0 0
theorem w_frames : about1.frames = Frame.invoking theMethod args0 :: below0 := rfl
set_option maxRecDepth 65536 in
theorem w_args : argsFit about1.vm theMethod args0 = true := by decide +kernel
set_option maxRecDepth 65536 in
theorem w_heap : heapFits about1 = true := by decide +kernel
set_option maxRecDepth 65536 in
theorem w_runnable : about1.curStatus? = some .runnable := by decide +kernel
set_option maxRecDepth 65536 in
theorem w_alone : about1.alone = true := by decide +kernel
set_option maxRecDepth 65536 in
theorem w_named : about1.methodNamed? x = some theMethod := by decide +kernel
set_option maxRecDepth 65536 in
theorem w_hears : about1.hears theMethod below0 = true := by decide +kernel
set_option maxRecDepth 65536 in
theorem w_ripe : about1.ripe theMethod args0 below0 = true := by decide +kernel
theorem w_running : about1.status = .running := rfl
set_option maxRecDepth 65536 in
theorem w_room : about1.hasRoom e0.platform room_1 = true :=
  launch0.hasRoom_least _ room_1 (by decide +kernel) (by decide +kernel) (by decide +kernel) (by decide +kernel) (by decide +kernel) (by decide +kernel)
theorem allAtoms_all (ts : List Jvm.Cond) (a : Array Jvm.Value) (st : Jvm.State) : (allAtoms ts).before a st = ts.all (fun c => c.before a st) := by
  induction ts with
  | nil => rfl
  | cons c t ih =>
    show (Jvm.Cond.and c (allAtoms t)).before a st = _
    rw [Jvm.Cond.before_and, ih, List.all_cons]
def words1 : List Jvm.Cond := Jvm.Cond.code x code maxLocals ret :: tables_1
/-- a 'code' word, met by the world's own term for the bytes: nothing is compared byte by byte -/
theorem code_word {y : MethodName} {bytes : ByteArray} {mx : Nat} {rt : Option FieldType} {a : Array Value} {s : State} {m : MethodId} {meth : Method} {c : Code} (h1 : s.methodNamed? y = some m) (h2 : s.vm.method? m = some meth) (h3 : meth.code = some c) (h4 : c.code = bytes)
    (h5 : (c.maxLocals == mx && c.exceptionTable.isEmpty && decide (c.maxStack ≤ mostOperands) && decide (meth.sig.returnType = rt) && !meth.locks && decide (parseMethodDescriptor y.desc = some meth.sig)) = true) : (Jvm.Cond.code y bytes mx rt).before a s = true := by
  simp only [Bool.and_eq_true, beq_iff_eq, Bool.not_eq_true', decide_eq_true_eq] at h5
  obtain ⟨⟨⟨⟨⟨g1, g2⟩, g3⟩, g4⟩, g5⟩, g6⟩ := h5
  simp [Cond.before, Cond.holds, Cond.value, h1, h2, h3, h4, g1, g2, g3, g4, g5, g6]
def isCode : Jvm.Cond → Bool
  | .code _ _ _ _ => true
  | _ => false
theorem all_split {L : List Jvm.Cond} {P : Jvm.Cond → Bool} (h1 : L.all (fun c => isCode c || P c) = true) (h2 : ∀ c ∈ L.filter isCode, P c = true) : L.all P = true := by
  refine List.all_eq_true.mpr fun c hc => ?_
  have h := List.all_eq_true.mp h1 c hc
  rcases Bool.eq_false_or_eq_true (isCode c) with hi | hi
  · exact h2 c (List.mem_filter.mpr ⟨hc, hi⟩)
  · simpa [hi] using h
set_option maxRecDepth 65536 in
theorem w_c0 : (Jvm.Cond.code x code maxLocals ret).before args0 about1 = true := code_word (m := ⟨1, 1⟩) (meth := k1m1) (c := k1c1) (by decide +kernel) rfl rfl rfl (by decide +kernel)
set_option maxRecDepth 65536 in
theorem w_c1 : (Jvm.Cond.code ({ cls := "com/example/weftwork/weftwork/model/Components", name := "<init>", desc := "(I)V" } : Jvm.MethodName) prog_43_method_1_code (3 : Nat) (Option.none : Option Jvm.ClassFile.FieldType)).before args0 about1 = true := code_word (m := ⟨2, 0⟩) (meth := k2m0) (c := k2c0) (by decide +kernel) rfl rfl rfl (by decide +kernel)
set_option maxRecDepth 65536 in
theorem w_c2 : (Jvm.Cond.code ({ cls := "java/lang/Object", name := "<init>", desc := "()V" } : Jvm.MethodName) object_method_1_code (1 : Nat) (Option.none : Option Jvm.ClassFile.FieldType)).before args0 about1 = true := code_word (m := ⟨0, 0⟩) (meth := k0m0) (c := k0c0) (by decide +kernel) rfl rfl rfl (by decide +kernel)
set_option maxRecDepth 65536 in
theorem w_c3 : (Jvm.Cond.code ({ cls := "com/example/weftwork/weftwork/model/Components", name := "whole", desc := "()Z" } : Jvm.MethodName) prog_43_method_3_code (1 : Nat) (Option.some Jvm.ClassFile.FieldType.boolean)).before args0 about1 = true := code_word (m := ⟨2, 2⟩) (meth := k2m2) (c := k2c2) (by decide +kernel) rfl rfl rfl (by decide +kernel)
set_option maxRecDepth 65536 in
theorem w_c4 : (Jvm.Cond.code ({ cls := "com/example/weftwork/weftwork/model/ComponentsWholePinLaw", name := "step", desc := "(Lcom/example/weftwork/weftwork/model/Components;[III)V" } : Jvm.MethodName) method_3_code (8 : Nat) (Option.none : Option Jvm.ClassFile.FieldType)).before args0 about1 = true := code_word (m := ⟨1, 2⟩) (meth := k1m2) (c := k1c2) (by decide +kernel) rfl rfl rfl (by decide +kernel)
set_option maxRecDepth 65536 in
theorem w_c5 : (Jvm.Cond.code ({ cls := "com/example/weftwork/weftwork/model/Components", name := "join", desc := "(II)V" } : Jvm.MethodName) prog_43_method_2_code (5 : Nat) (Option.none : Option Jvm.ClassFile.FieldType)).before args0 about1 = true := code_word (m := ⟨2, 1⟩) (meth := k2m1) (c := k2c1) (by decide +kernel) rfl rfl rfl (by decide +kernel)
set_option maxRecDepth 65536 in
theorem w_c6 : (Jvm.Cond.code ({ cls := "com/example/weftwork/weftwork/model/Components", name := "root", desc := "(I)I" } : Jvm.MethodName) prog_43_method_5_code (4 : Nat) (Option.some Jvm.ClassFile.FieldType.int)).before args0 about1 = true := code_word (m := ⟨2, 3⟩) (meth := k2m3) (c := k2c3) (by decide +kernel) rfl rfl rfl (by decide +kernel)
set_option maxRecDepth 65536 in
theorem w_c7 : (Jvm.Cond.code ({ cls := "java/lang/Math", name := "max", desc := "(II)I" } : Jvm.MethodName) jdk_29_method_65_code (2 : Nat) (Option.some Jvm.ClassFile.FieldType.int)).before args0 about1 = true := code_word (m := ⟨3, 1⟩) (meth := k3m1) (c := k3c1) (by decide +kernel) rfl rfl rfl (by decide +kernel)
set_option maxRecDepth 65536 in
theorem w_c8 : (Jvm.Cond.code ({ cls := "java/lang/Math", name := "min", desc := "(II)I" } : Jvm.MethodName) jdk_29_method_69_code (2 : Nat) (Option.some Jvm.ClassFile.FieldType.int)).before args0 about1 = true := code_word (m := ⟨3, 2⟩) (meth := k3m2) (c := k3c2) (by decide +kernel) rfl rfl rfl (by decide +kernel)
def codes1 : List Jvm.Cond := [Jvm.Cond.code x code maxLocals ret, Jvm.Cond.code ({ cls := "com/example/weftwork/weftwork/model/Components", name := "<init>", desc := "(I)V" } : Jvm.MethodName) prog_43_method_1_code (3 : Nat) (Option.none : Option Jvm.ClassFile.FieldType), Jvm.Cond.code ({ cls := "java/lang/Object", name := "<init>", desc := "()V" } : Jvm.MethodName) object_method_1_code (1 : Nat) (Option.none : Option Jvm.ClassFile.FieldType), Jvm.Cond.code ({ cls := "com/example/weftwork/weftwork/model/Components", name := "whole", desc := "()Z" } : Jvm.MethodName) prog_43_method_3_code (1 : Nat) (Option.some Jvm.ClassFile.FieldType.boolean), Jvm.Cond.code ({ cls := "com/example/weftwork/weftwork/model/ComponentsWholePinLaw", name := "step", desc := "(Lcom/example/weftwork/weftwork/model/Components;[III)V" } : Jvm.MethodName) method_3_code (8 : Nat) (Option.none : Option Jvm.ClassFile.FieldType), Jvm.Cond.code ({ cls := "com/example/weftwork/weftwork/model/Components", name := "join", desc := "(II)V" } : Jvm.MethodName) prog_43_method_2_code (5 : Nat) (Option.none : Option Jvm.ClassFile.FieldType), Jvm.Cond.code ({ cls := "com/example/weftwork/weftwork/model/Components", name := "root", desc := "(I)I" } : Jvm.MethodName) prog_43_method_5_code (4 : Nat) (Option.some Jvm.ClassFile.FieldType.int), Jvm.Cond.code ({ cls := "java/lang/Math", name := "max", desc := "(II)I" } : Jvm.MethodName) jdk_29_method_65_code (2 : Nat) (Option.some Jvm.ClassFile.FieldType.int), Jvm.Cond.code ({ cls := "java/lang/Math", name := "min", desc := "(II)I" } : Jvm.MethodName) jdk_29_method_69_code (2 : Nat) (Option.some Jvm.ClassFile.FieldType.int)]
set_option maxRecDepth 65536 in
theorem codes_eq : words1.filter isCode = codes1 := rfl
theorem w_codes : ∀ c ∈ words1.filter isCode, c.before args0 about1 = true := by
  rw [codes_eq]
  intro c hc
  simp only [codes1, List.mem_cons, List.not_mem_nil, or_false] at hc
  rcases hc with rfl | rfl | rfl | rfl | rfl | rfl | rfl | rfl | rfl
  · exact w_c0
  · exact w_c1
  · exact w_c2
  · exact w_c3
  · exact w_c4
  · exact w_c5
  · exact w_c6
  · exact w_c7
  · exact w_c8
set_option maxRecDepth 65536 in
theorem w_t1 : (words1.take 24).all (fun c => isCode c || c.before args0 about1) = true := by decide +kernel
set_option maxRecDepth 65536 in
theorem w_t2 : (words1.drop 24).all (fun c => isCode c || c.before args0 about1) = true := by decide +kernel
theorem w_tables : (allAtoms (Jvm.Cond.code x code maxLocals ret :: tables_1)).before args0 about1 = true := by
  rw [allAtoms_all]
  show words1.all (fun c => c.before args0 about1) = true
  refine all_split ?_ w_codes
  rw [← List.take_append_drop 24 words1, List.all_append, w_t1, w_t2]
  rfl
set_option maxRecDepth 65536 in
theorem w_case : (Jvm.Cond.and given_1 narrow_1).before args0 about1 = true := by decide +kernel
theorem w_applies : (headSpec (Jvm.Cond.code x code maxLocals ret :: tables_1) room_1).applies x e0.platform about1 = true :=
  (Spec.applies_iff w_frames).mpr ⟨w_running, w_runnable, w_alone, w_named, w_hears, w_ripe, w_room, w_tables⟩
theorem atStart : AtStart classFile x code maxLocals ret World_1 tables_1 room_1 Calls_1 rest_1 Pre_1 launch0 p0 e0 about1 theMethod args0 below0 :=
  ⟨lists_1, trivial, launch0.admits_env _ _ _, launch0.least_env, fairChoices_fair.cas, fairChoices_fair.clock, w_frames, w_args, w_heap, w_applies, trivial, trivial, w_case⟩
end start1
theorem witness_1 : WitnessClaimed_1 := ⟨start1.p0, start1.e0, start1.about1, start1.theMethod, start1.args0, start1.below0, start1.atStart⟩
end Jvm.Pilot.@@N@@

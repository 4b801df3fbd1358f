import JvmDerived
import JvmDerived.Pilot.@@N@@Statement
import JvmDerived.Pilot.@@N@@Code
set_option linter.unusedVariables false
set_option linter.unusedSimpArgs false
namespace Jvm.Pilot.@@N@@
open Jvm Jvm.ClassFile Sem Op Lib Jvm.Free Jvm.Stand Jvm.LawKit Jvm.RoadKit Bundle Jvm.Pilot.@@N@@.Jvm.D
/-! THE LAYER own_: 'Ends': from this state the body ends as Q says; one lemma an instruction, over frames in the form mkF -/
section Own
variable {p : Program} {l : Launch} {e : Env} {R : Room} {s : State} {m : MethodId} {args : Array Value} {below : List Frame} {meth : Method} {c : Code} {T : State} {locs : List Loc} {cells slots : Nat}
variable {Q : Option Value → Heap → List Loc → Prop} {C S : Nat} {bc : ByteArray} {pc pc' : Nat} {Ls Ls' : Array Slot} {st : List Value} {Fz : Outcome → State → Prop}
def Ends (tb : Tables) (e : Env) (below : List Frame) (Fz : Outcome → State → Prop) (t : State) : Prop :=
  ∃ s₂ o, Steps tb e below t s₂ ∧ s₂.status = .running ∧ Ended s₂ below o ∧ Fz o s₂
def OwnFin (s : State) (Q : Option Value → Heap → List Loc → Prop) (C S : Nat) (o : Outcome) (s₂ : State) : Prop := ∃ v L, o = .returned v ∧ Q v s₂.heap L ∧ FrameEnd s o s₂ L C S
theorem Ends.of {tb : Tables} {t t' : State} (st : ∀ target, Steps tb e below t' target → Steps tb e below t target) (k : Ends tb e below Fz t') : Ends tb e below Fz t := by
  obtain ⟨s₂, o, h1, h2⟩ := k
  exact ⟨s₂, o, st _ h1, h2⟩
theorem Ends.tr {tb : Tables} {t t' : State} (st : Steps tb e below t t') (k : Ends tb e below Fz t') : Ends tb e below Fz t := Ends.of (fun _ q => st.trans q) k
theorem own_iloadN (X : Stand p l e R s m args below meth c T locs cells slots) (hx : p.tables.exec = Jvm.exec) (hby : c.code = bc) {k : Fin 4} {v : Int32} (hd : decode bc pc = .ok (.iload_n k, 1)) (hp : pc + 1 = pc') (hl : Ls[k.val]? = some (.val (.int v)))
    (kt : Ends p.tables e below Fz (T.setTop (mkF m pc' Ls (.int v :: st)))) : Ends p.tables e below Fz (T.setTop (mkF m pc Ls st)) := by
  subst hp; exact Ends.of (fun _ q => XS.iloadN X.here hx rfl (hb hby hd) hl q) kt
theorem own_iload (X : Stand p l e R s m args below meth c T locs cells slots) (hx : p.tables.exec = Jvm.exec) (hby : c.code = bc) {k : Nat} {v : Int32} (hd : decode bc pc = .ok (.iload k, 2)) (hp : pc + 2 = pc') (hl : Ls[k]? = some (.val (.int v)))
    (kt : Ends p.tables e below Fz (T.setTop (mkF m pc' Ls (.int v :: st)))) : Ends p.tables e below Fz (T.setTop (mkF m pc Ls st)) := by
  subst hp; exact Ends.of (fun _ q => XS.iload X.here hx rfl (hb hby hd) hl q) kt
theorem own_aloadN (X : Stand p l e R s m args below meth c T locs cells slots) (hx : p.tables.exec = Jvm.exec) (hby : c.code = bc) {k : Fin 4} {v : Value} (hd : decode bc pc = .ok (.aload_n k, 1)) (hp : pc + 1 = pc') (hl : Ls[k.val]? = some (.val v)) (hv : v.isRef = true)
    (kt : Ends p.tables e below Fz (T.setTop (mkF m pc' Ls (v :: st)))) : Ends p.tables e below Fz (T.setTop (mkF m pc Ls st)) := by
  subst hp; exact Ends.of (fun _ q => XS.aloadN X.here hx rfl (hb hby hd) hl hv q) kt
theorem own_aload (X : Stand p l e R s m args below meth c T locs cells slots) (hx : p.tables.exec = Jvm.exec) (hby : c.code = bc) {k : Nat} {v : Value} (hd : decode bc pc = .ok (.aload k, 2)) (hp : pc + 2 = pc') (hl : Ls[k]? = some (.val v)) (hv : v.isRef = true)
    (kt : Ends p.tables e below Fz (T.setTop (mkF m pc' Ls (v :: st)))) : Ends p.tables e below Fz (T.setTop (mkF m pc Ls st)) := by
  subst hp; exact Ends.of (fun _ q => XS.aload X.here hx rfl (hb hby hd) hl hv q) kt
theorem own_istoreN (X : Stand p l e R s m args below meth c T locs cells slots) (hx : p.tables.exec = Jvm.exec) (hby : c.code = bc) {k : Fin 4} {v : Int32} (hd : decode bc pc = .ok (.istore_n k, 1)) (hp : pc + 1 = pc') (Ls' : Array Slot) (hl : storeLocals Ls k.val (.int v) = some Ls')
    (kt : Ends p.tables e below Fz (T.setTop (mkF m pc' Ls' st))) : Ends p.tables e below Fz (T.setTop (mkF m pc Ls (.int v :: st))) := by
  subst hp; exact Ends.of (fun _ q => XS.istoreN X.here hx rfl (hb hby hd) rfl hl q) kt
theorem own_istore (X : Stand p l e R s m args below meth c T locs cells slots) (hx : p.tables.exec = Jvm.exec) (hby : c.code = bc) {k : Nat} {v : Int32} (hd : decode bc pc = .ok (.istore k, 2)) (hp : pc + 2 = pc') (Ls' : Array Slot) (hl : storeLocals Ls k (.int v) = some Ls')
    (kt : Ends p.tables e below Fz (T.setTop (mkF m pc' Ls' st))) : Ends p.tables e below Fz (T.setTop (mkF m pc Ls (.int v :: st))) := by
  subst hp; exact Ends.of (fun _ q => XS.istore X.here hx rfl (hb hby hd) rfl hl q) kt
theorem own_astoreN (X : Stand p l e R s m args below meth c T locs cells slots) (hx : p.tables.exec = Jvm.exec) (hby : c.code = bc) {k : Fin 4} {v : Value} (hd : decode bc pc = .ok (.astore_n k, 1)) (hp : pc + 1 = pc') (Ls' : Array Slot) (hv : v.isRef = true) (hl : storeLocals Ls k.val v = some Ls')
    (kt : Ends p.tables e below Fz (T.setTop (mkF m pc' Ls' st))) : Ends p.tables e below Fz (T.setTop (mkF m pc Ls (v :: st))) := by
  subst hp; exact Ends.of (fun _ q => XS.astoreN X.here hx rfl (hb hby hd) rfl hv hl q) kt
theorem own_astore (X : Stand p l e R s m args below meth c T locs cells slots) (hx : p.tables.exec = Jvm.exec) (hby : c.code = bc) {k : Nat} {v : Value} (hd : decode bc pc = .ok (.astore k, 2)) (hp : pc + 2 = pc') (Ls' : Array Slot) (hv : v.isRef = true) (hl : storeLocals Ls k v = some Ls')
    (kt : Ends p.tables e below Fz (T.setTop (mkF m pc' Ls' st))) : Ends p.tables e below Fz (T.setTop (mkF m pc Ls (v :: st))) := by
  subst hp; exact Ends.of (fun _ q => XS.astore X.here hx rfl (hb hby hd) rfl hv hl q) kt
theorem own_iconst (X : Stand p l e R s m args below meth c T locs cells slots) (hx : p.tables.exec = Jvm.exec) (hby : c.code = bc) {i : Int} (hd : decode bc pc = .ok (.iconst i, 1)) (hp : pc + 1 = pc') (v : Int32) (hv : Int32.ofInt i = v)
    (kt : Ends p.tables e below Fz (T.setTop (mkF m pc' Ls (.int v :: st)))) : Ends p.tables e below Fz (T.setTop (mkF m pc Ls st)) := by
  subst hp; exact Ends.of (fun _ q => by subst hv; exact XS.iconst X.here hx rfl (hb hby hd) q) kt
theorem own_bipush (X : Stand p l e R s m args below meth c T locs cells slots) (hx : p.tables.exec = Jvm.exec) (hby : c.code = bc) {i : Int} (hd : decode bc pc = .ok (.bipush i, 2)) (hp : pc + 2 = pc') (v : Int32) (hv : (Int8.ofInt i).toInt32 = v)
    (kt : Ends p.tables e below Fz (T.setTop (mkF m pc' Ls (.int v :: st)))) : Ends p.tables e below Fz (T.setTop (mkF m pc Ls st)) := by
  subst hp; exact Ends.of (fun _ q => by subst hv; exact XS.bipush X.here hx rfl (hb hby hd) q) kt
theorem own_sipush (X : Stand p l e R s m args below meth c T locs cells slots) (hx : p.tables.exec = Jvm.exec) (hby : c.code = bc) {i : Int} (hd : decode bc pc = .ok (.sipush i, 3)) (hp : pc + 3 = pc') (v : Int32) (hv : (Int16.ofInt i).toInt32 = v)
    (kt : Ends p.tables e below Fz (T.setTop (mkF m pc' Ls (.int v :: st)))) : Ends p.tables e below Fz (T.setTop (mkF m pc Ls st)) := by
  subst hp; exact Ends.of (fun _ q => by subst hv; exact XS.sipush X.here hx rfl (hb hby hd) q) kt
theorem own_aconstNull (X : Stand p l e R s m args below meth c T locs cells slots) (hx : p.tables.exec = Jvm.exec) (hby : c.code = bc)  (hd : decode bc pc = .ok (.aconst_null, 1)) (hp : pc + 1 = pc')
    (kt : Ends p.tables e below Fz (T.setTop (mkF m pc' Ls (.null :: st)))) : Ends p.tables e below Fz (T.setTop (mkF m pc Ls st)) := by
  subst hp; exact Ends.of (fun _ q => XS.aconstNull X.here hx rfl (hb hby hd) q) kt
theorem own_iadd (X : Stand p l e R s m args below meth c T locs cells slots) (hx : p.tables.exec = Jvm.exec) (hby : c.code = bc) {x y : Int32} (hd : decode bc pc = .ok (.iadd, 1)) (hp : pc + 1 = pc')
    (kt : Ends p.tables e below Fz (T.setTop (mkF m pc' Ls (.int (x + y) :: st)))) : Ends p.tables e below Fz (T.setTop (mkF m pc Ls (.int y :: .int x :: st))) := by
  subst hp; exact Ends.of (fun _ q => XS.iadd X.here hx rfl (hb hby hd) rfl q) kt
theorem own_isub (X : Stand p l e R s m args below meth c T locs cells slots) (hx : p.tables.exec = Jvm.exec) (hby : c.code = bc) {x y : Int32} (hd : decode bc pc = .ok (.isub, 1)) (hp : pc + 1 = pc')
    (kt : Ends p.tables e below Fz (T.setTop (mkF m pc' Ls (.int (x - y) :: st)))) : Ends p.tables e below Fz (T.setTop (mkF m pc Ls (.int y :: .int x :: st))) := by
  subst hp; exact Ends.of (fun _ q => XS.isub X.here hx rfl (hb hby hd) rfl q) kt
theorem own_iand (X : Stand p l e R s m args below meth c T locs cells slots) (hx : p.tables.exec = Jvm.exec) (hby : c.code = bc) {x y : Int32} (hd : decode bc pc = .ok (.iand, 1)) (hp : pc + 1 = pc')
    (kt : Ends p.tables e below Fz (T.setTop (mkF m pc' Ls (.int (x &&& y) :: st)))) : Ends p.tables e below Fz (T.setTop (mkF m pc Ls (.int y :: .int x :: st))) := by
  subst hp; exact Ends.of (fun _ q => XS.iand X.here hx rfl (hb hby hd) rfl q) kt
theorem own_ishr (X : Stand p l e R s m args below meth c T locs cells slots) (hx : p.tables.exec = Jvm.exec) (hby : c.code = bc) {x : Int32} {y : Int32} (hd : decode bc pc = .ok (.ishr, 1)) (hp : pc + 1 = pc')
    (kt : Ends p.tables e below Fz (T.setTop (mkF m pc' Ls (.int (x >>> (y &&& 31)) :: st)))) : Ends p.tables e below Fz (T.setTop (mkF m pc Ls (.int y :: .int x :: st))) := by
  subst hp; exact Ends.of (fun _ q => Jvm.Free.XT.ishr X.here hx rfl (hb hby hd) rfl q) kt
theorem own_iushr (X : Stand p l e R s m args below meth c T locs cells slots) (hx : p.tables.exec = Jvm.exec) (hby : c.code = bc) {x : Int32} {y : Int32} (hd : decode bc pc = .ok (.iushr, 1)) (hp : pc + 1 = pc')
    (kt : Ends p.tables e below Fz (T.setTop (mkF m pc' Ls (.int ((x.toUInt32 >>> (y &&& 31).toUInt32).toInt32) :: st)))) : Ends p.tables e below Fz (T.setTop (mkF m pc Ls (.int y :: .int x :: st))) := by
  subst hp; exact Ends.of (fun _ q => Jvm.Free.XT.iushr X.here hx rfl (hb hby hd) rfl q) kt
theorem own_i2b (X : Stand p l e R s m args below meth c T locs cells slots) (hx : p.tables.exec = Jvm.exec) (hby : c.code = bc) {x : Int32} (hd : decode bc pc = .ok (.i2b, 1)) (hp : pc + 1 = pc')
    (kt : Ends p.tables e below Fz (T.setTop (mkF m pc' Ls (.int x.toInt8.toInt32 :: st)))) : Ends p.tables e below Fz (T.setTop (mkF m pc Ls (.int x :: st))) := by
  subst hp; exact Ends.of (fun _ q => Jvm.Free.XT.i2b X.here hx rfl (hb hby hd) rfl q) kt
theorem own_i2c (X : Stand p l e R s m args below meth c T locs cells slots) (hx : p.tables.exec = Jvm.exec) (hby : c.code = bc) {x : Int32} (hd : decode bc pc = .ok (.i2c, 1)) (hp : pc + 1 = pc')
    (kt : Ends p.tables e below Fz (T.setTop (mkF m pc' Ls (.int x.toUInt32.toUInt16.toUInt32.toInt32 :: st)))) : Ends p.tables e below Fz (T.setTop (mkF m pc Ls (.int x :: st))) := by
  subst hp; exact Ends.of (fun _ q => Jvm.Free.XT.i2c X.here hx rfl (hb hby hd) rfl q) kt
theorem own_dup (X : Stand p l e R s m args below meth c T locs cells slots) (hx : p.tables.exec = Jvm.exec) (hby : c.code = bc) {v : Value} (hd : decode bc pc = .ok (.dup, 1)) (hp : pc + 1 = pc') (hc : v.category = 1)
    (kt : Ends p.tables e below Fz (T.setTop (mkF m pc' Ls (v :: v :: st)))) : Ends p.tables e below Fz (T.setTop (mkF m pc Ls (v :: st))) := by
  subst hp; exact Ends.of (fun _ q => XS.dup X.here hx rfl (hb hby hd) rfl hc q) kt
theorem own_pop (X : Stand p l e R s m args below meth c T locs cells slots) (hx : p.tables.exec = Jvm.exec) (hby : c.code = bc) {v : Value} (hd : decode bc pc = .ok (.pop, 1)) (hp : pc + 1 = pc') (hc : v.category = 1)
    (kt : Ends p.tables e below Fz (T.setTop (mkF m pc' Ls st))) : Ends p.tables e below Fz (T.setTop (mkF m pc Ls (v :: st))) := by
  subst hp; exact Ends.of (fun _ q => Jvm.Free.XT.pop X.here hx rfl (hb hby hd) rfl hc q) kt
theorem own_iinc (X : Stand p l e R s m args below meth c T locs cells slots) (hx : p.tables.exec = Jvm.exec) (hby : c.code = bc) {k : Nat} {i : Int} {x : Int32} (hd : decode bc pc = .ok (.iinc k i, 3)) (hp : pc + 3 = pc') (v : Int32) (hv : Int32.ofInt i = v) (Ls' : Array Slot) (hl : Ls[k]? = some (.val (.int x))) (hl' : storeLocals Ls k (.int (x + v)) = some Ls')
    (kt : Ends p.tables e below Fz (T.setTop (mkF m pc' Ls' st))) : Ends p.tables e below Fz (T.setTop (mkF m pc Ls st)) := by
  subst hp; exact Ends.of (fun _ q => by subst hv; exact XS.iinc X.here hx rfl (hb hby hd) hl hl' q) kt
theorem own_goto (X : Stand p l e R s m args below meth c T locs cells slots) (hx : p.tables.exec = Jvm.exec) (hby : c.code = bc) {o : Int} (hd : decode bc pc = .ok (.goto o, 3)) (hp : (pc : Int) + o = (pc' : Int)) (kt : Ends p.tables e below Fz (T.setTop (mkF m pc' Ls st))) : Ends p.tables e below Fz (T.setTop (mkF m pc Ls st)) :=
  Ends.of (fun _ q => XS.goto X.here hx rfl (pc0 := pc) (pc' := pc') rfl (hb hby hd) (by rw [hp]; exact Int.natCast_nonneg _) (by rw [hp]; rfl) q) kt
theorem own_icmp_eq (X : Stand p l e R s m args below meth c T locs cells slots) (hx : p.tables.exec = Jvm.exec) (hby : c.code = bc) {x y : Int32} {o : Int} {pcY pcN : Nat} (hd : decode bc pc = .ok (.if_icmp .eq o, 3)) (hpY : (pc : Int) + o = (pcY : Int)) (hpN : pc + 3 = pcN) (kY : x = y → Ends p.tables e below Fz (T.setTop (mkF m pcY Ls st))) (kN : ¬ x = y → Ends p.tables e below Fz (T.setTop (mkF m pcN Ls st))) : Ends p.tables e below Fz (T.setTop (mkF m pc Ls (.int y :: .int x :: st))) := by
  subst hpN; by_cases h : x = y
  · exact Ends.of (fun _ q => XS.icmpYes X.here hx rfl (pc0 := pc) (pc' := pcY) rfl (hb hby hd) rfl (Jvm.Free.XT.ii_eq_t h) (by rw [hpY]; exact Int.natCast_nonneg _) (by rw [hpY]; rfl) q) (kY h)
  · exact Ends.of (fun _ q => XS.icmpNo X.here hx rfl (hb hby hd) rfl (Jvm.Free.XT.ii_eq_f h) q) (kN h)
theorem own_icmp_ne (X : Stand p l e R s m args below meth c T locs cells slots) (hx : p.tables.exec = Jvm.exec) (hby : c.code = bc) {x y : Int32} {o : Int} {pcY pcN : Nat} (hd : decode bc pc = .ok (.if_icmp .ne o, 3)) (hpY : (pc : Int) + o = (pcY : Int)) (hpN : pc + 3 = pcN) (kY : ¬ x = y → Ends p.tables e below Fz (T.setTop (mkF m pcY Ls st))) (kN : x = y → Ends p.tables e below Fz (T.setTop (mkF m pcN Ls st))) : Ends p.tables e below Fz (T.setTop (mkF m pc Ls (.int y :: .int x :: st))) := by
  subst hpN; by_cases h : x = y
  · exact Ends.of (fun _ q => XS.icmpNo X.here hx rfl (hb hby hd) rfl (Jvm.Free.XT.ii_ne_f h) q) (kN h)
  · exact Ends.of (fun _ q => XS.icmpYes X.here hx rfl (pc0 := pc) (pc' := pcY) rfl (hb hby hd) rfl (Jvm.Free.XT.ii_ne_t h) (by rw [hpY]; exact Int.natCast_nonneg _) (by rw [hpY]; rfl) q) (kY h)
theorem own_icmp_ge (X : Stand p l e R s m args below meth c T locs cells slots) (hx : p.tables.exec = Jvm.exec) (hby : c.code = bc) {x y : Int32} {o : Int} {pcY pcN : Nat} (hd : decode bc pc = .ok (.if_icmp .ge o, 3)) (hpY : (pc : Int) + o = (pcY : Int)) (hpN : pc + 3 = pcN) (kY : y.toInt ≤ x.toInt → Ends p.tables e below Fz (T.setTop (mkF m pcY Ls st))) (kN : x.toInt < y.toInt → Ends p.tables e below Fz (T.setTop (mkF m pcN Ls st))) : Ends p.tables e below Fz (T.setTop (mkF m pc Ls (.int y :: .int x :: st))) := by
  subst hpN; by_cases h : x < y
  · exact Ends.of (fun _ q => XS.icmpNo X.here hx rfl (hb hby hd) rfl (Jvm.Free.XT.ii_ge_f h) q) (kN (Int32.lt_iff_toInt_lt.mp h))
  · exact Ends.of (fun _ q => XS.icmpYes X.here hx rfl (pc0 := pc) (pc' := pcY) rfl (hb hby hd) rfl (Jvm.Free.XT.ii_ge_t h) (by rw [hpY]; exact Int.natCast_nonneg _) (by rw [hpY]; rfl) q) (kY (Int.not_lt.mp fun q => h (Int32.lt_iff_toInt_lt.mpr q)))
theorem own_icmp_gt (X : Stand p l e R s m args below meth c T locs cells slots) (hx : p.tables.exec = Jvm.exec) (hby : c.code = bc) {x y : Int32} {o : Int} {pcY pcN : Nat} (hd : decode bc pc = .ok (.if_icmp .gt o, 3)) (hpY : (pc : Int) + o = (pcY : Int)) (hpN : pc + 3 = pcN) (kY : y.toInt < x.toInt → Ends p.tables e below Fz (T.setTop (mkF m pcY Ls st))) (kN : x.toInt ≤ y.toInt → Ends p.tables e below Fz (T.setTop (mkF m pcN Ls st))) : Ends p.tables e below Fz (T.setTop (mkF m pc Ls (.int y :: .int x :: st))) := by
  subst hpN; by_cases h : y < x
  · exact Ends.of (fun _ q => XS.icmpYes X.here hx rfl (pc0 := pc) (pc' := pcY) rfl (hb hby hd) rfl (Jvm.Free.XT.ii_gt_t h) (by rw [hpY]; exact Int.natCast_nonneg _) (by rw [hpY]; rfl) q) (kY (Int32.lt_iff_toInt_lt.mp h))
  · exact Ends.of (fun _ q => XS.icmpNo X.here hx rfl (hb hby hd) rfl (Jvm.Free.XT.ii_gt_f h) q) (kN (Int.not_lt.mp fun q => h (Int32.lt_iff_toInt_lt.mpr q)))
theorem own_icmp_le (X : Stand p l e R s m args below meth c T locs cells slots) (hx : p.tables.exec = Jvm.exec) (hby : c.code = bc) {x y : Int32} {o : Int} {pcY pcN : Nat} (hd : decode bc pc = .ok (.if_icmp .le o, 3)) (hpY : (pc : Int) + o = (pcY : Int)) (hpN : pc + 3 = pcN) (kY : x.toInt ≤ y.toInt → Ends p.tables e below Fz (T.setTop (mkF m pcY Ls st))) (kN : y.toInt < x.toInt → Ends p.tables e below Fz (T.setTop (mkF m pcN Ls st))) : Ends p.tables e below Fz (T.setTop (mkF m pc Ls (.int y :: .int x :: st))) := by
  subst hpN; by_cases h : y < x
  · exact Ends.of (fun _ q => XS.icmpNo X.here hx rfl (hb hby hd) rfl (Jvm.Free.XT.ii_le_f h) q) (kN (Int32.lt_iff_toInt_lt.mp h))
  · exact Ends.of (fun _ q => XS.icmpYes X.here hx rfl (pc0 := pc) (pc' := pcY) rfl (hb hby hd) rfl (Jvm.Free.XT.ii_le_t h) (by rw [hpY]; exact Int.natCast_nonneg _) (by rw [hpY]; rfl) q) (kY (Int.not_lt.mp fun q => h (Int32.lt_iff_toInt_lt.mpr q)))
theorem own_if_eq (X : Stand p l e R s m args below meth c T locs cells slots) (hx : p.tables.exec = Jvm.exec) (hby : c.code = bc) {x : Int32} {o : Int} {pcY pcN : Nat} (hd : decode bc pc = .ok (.ifCond .eq o, 3)) (hpY : (pc : Int) + o = (pcY : Int)) (hpN : pc + 3 = pcN) (kY : x = 0 → Ends p.tables e below Fz (T.setTop (mkF m pcY Ls st))) (kN : ¬ x = 0 → Ends p.tables e below Fz (T.setTop (mkF m pcN Ls st))) : Ends p.tables e below Fz (T.setTop (mkF m pc Ls (.int x :: st))) := by
  subst hpN; by_cases h : x = (0 : Int32)
  · exact Ends.of (fun _ q => XS.ifYes X.here hx rfl (pc0 := pc) (pc' := pcY) rfl (hb hby hd) rfl (Jvm.Free.XT.i0_eq_t h) (by rw [hpY]; exact Int.natCast_nonneg _) (by rw [hpY]; rfl) q) (kY h)
  · exact Ends.of (fun _ q => XS.ifNo X.here hx rfl (hb hby hd) rfl (Jvm.Free.XT.i0_eq_f h) q) (kN h)
theorem own_if_ne (X : Stand p l e R s m args below meth c T locs cells slots) (hx : p.tables.exec = Jvm.exec) (hby : c.code = bc) {x : Int32} {o : Int} {pcY pcN : Nat} (hd : decode bc pc = .ok (.ifCond .ne o, 3)) (hpY : (pc : Int) + o = (pcY : Int)) (hpN : pc + 3 = pcN) (kY : ¬ x = 0 → Ends p.tables e below Fz (T.setTop (mkF m pcY Ls st))) (kN : x = 0 → Ends p.tables e below Fz (T.setTop (mkF m pcN Ls st))) : Ends p.tables e below Fz (T.setTop (mkF m pc Ls (.int x :: st))) := by
  subst hpN; by_cases h : x = (0 : Int32)
  · exact Ends.of (fun _ q => XS.ifNo X.here hx rfl (hb hby hd) rfl (Jvm.Free.XT.i0_ne_f h) q) (kN h)
  · exact Ends.of (fun _ q => XS.ifYes X.here hx rfl (pc0 := pc) (pc' := pcY) rfl (hb hby hd) rfl (Jvm.Free.XT.i0_ne_t h) (by rw [hpY]; exact Int.natCast_nonneg _) (by rw [hpY]; rfl) q) (kY h)
theorem own_if_lt (X : Stand p l e R s m args below meth c T locs cells slots) (hx : p.tables.exec = Jvm.exec) (hby : c.code = bc) {x : Int32} {o : Int} {pcY pcN : Nat} (hd : decode bc pc = .ok (.ifCond .lt o, 3)) (hpY : (pc : Int) + o = (pcY : Int)) (hpN : pc + 3 = pcN) (kY : x.toInt < (0 : Int) → Ends p.tables e below Fz (T.setTop (mkF m pcY Ls st))) (kN : (0 : Int) ≤ x.toInt → Ends p.tables e below Fz (T.setTop (mkF m pcN Ls st))) : Ends p.tables e below Fz (T.setTop (mkF m pc Ls (.int x :: st))) := by
  subst hpN; by_cases h : x < (0 : Int32)
  · exact Ends.of (fun _ q => XS.ifYes X.here hx rfl (pc0 := pc) (pc' := pcY) rfl (hb hby hd) rfl (Jvm.Free.XT.i0_lt_t h) (by rw [hpY]; exact Int.natCast_nonneg _) (by rw [hpY]; rfl) q) (kY (Int32.lt_iff_toInt_lt.mp h))
  · exact Ends.of (fun _ q => XS.ifNo X.here hx rfl (hb hby hd) rfl (Jvm.Free.XT.i0_lt_f h) q) (kN (Int.not_lt.mp fun q => h (Int32.lt_iff_toInt_lt.mpr q)))
theorem own_acmp_ne (X : Stand p l e R s m args below meth c T locs cells slots) (hx : p.tables.exec = Jvm.exec) (hby : c.code = bc) {x y : Value} {o : Int} {pcY pcN : Nat} (hd : decode bc pc = .ok (.if_acmp .ne o, 3)) (hpY : (pc : Int) + o = (pcY : Int)) (hpN : pc + 3 = pcN) (h1 : x.isRef = true) (h2 : y.isRef = true) (kY : ¬ x = y → Ends p.tables e below Fz (T.setTop (mkF m pcY Ls st))) (kN : x = y → Ends p.tables e below Fz (T.setTop (mkF m pcN Ls st))) : Ends p.tables e below Fz (T.setTop (mkF m pc Ls (y :: x :: st))) := by
  subst hpN; by_cases h : x = y
  · exact Ends.of (fun _ q => Jvm.RoadKit.acmp (g := mkF m pc Ls (y :: x :: st)) X hx rfl h1 h2 (pc0 := pc) (same := true) rfl (hb hby hd) rfl (decide_eq_true h) (by rw [hpY]; exact Int.natCast_nonneg _) rfl (by simpa [acV] using q)) (kN h)
  · exact Ends.of (fun _ q => Jvm.RoadKit.acmp (g := mkF m pc Ls (y :: x :: st)) X hx rfl h1 h2 (pc0 := pc) (same := false) rfl (hb hby hd) rfl (decide_eq_false h) (by rw [hpY]; exact Int.natCast_nonneg _) rfl (by simpa [acV, hpY] using q)) (kY h)
theorem own_ret (X : Stand p l e R s m args below meth c T locs cells slots) (hx : p.tables.exec = Jvm.exec) (hby : c.code = bc) {v : Value} {t : FieldType} {i : Instr} (hret : meth.sig.returnType = some t) (hk : meth.locks = false) (hd : decode bc pc = .ok (i, 1)) (v' : Value) (hn : narrow t v = v')
    (hi : (i = .ireturn ∧ (t = .int ∨ t = .boolean ∨ t = .byte ∨ t = .char ∨ t = .short) ∧ ∃ z, v = .int z) ∨ (i = .lreturn ∧ t = .long ∧ ∃ z, v = .long z) ∨ (i = .areturn ∧ t.isReference = true ∧ v.isRef = true))
    (hC : cells ≤ C) (hS : slots ≤ S) (q : Q (some v') T.heap locs) : Ends p.tables e below (OwnFin s Q C S) (T.setTop (mkF m pc Ls (v :: st))) := by
  obtain ⟨fs, hr, hrun, hended, hW, hsame⟩ := X.leave (v := some v') (fun h => by rw [hret] at h; cases h) hk
  refine ⟨_, _, ?_, hrun, hended, _, _, rfl, q, ⟨_, rfl⟩, hW, hsame.mono hC hS⟩
  have hm' : T.vm.method? m = some meth := X.method'
  show Steps p.tables e below (T.setTop { method := m, pc := pc, locals := Ls, stack := v :: st, locked := none }) _
  have hd' := hb hby hd
  rcases hi with ⟨rfl, ht, z, rfl⟩ | ⟨rfl, rfl, z, rfl⟩ | ⟨rfl, ht, hv⟩
  · rcases ht with rfl | rfl | rfl | rfl | rfl <;> (jvm_step X.here [X.here.top, hx, hd', hm', hret, hn]; first | (intro acts; rw [hr _ acts rfl rfl rfl]) | rw [hr _ _ rfl rfl rfl]) <;> exact Steps.refl _
  · have hn2 : Value.long z = v' := hn
    subst hn2
    jvm_step X.here [X.here.top, hx, hd', hm', hret, hn]
    first | (intro acts; rw [hr _ acts rfl rfl rfl]) | rw [hr _ _ rfl rfl rfl]
    exact Steps.refl _
  · have hn2 : v = v' := by rw [← hn]; rcases ref_cases hv with rfl | ⟨z, rfl⟩ <;> cases t <;> rfl
    subst hn2
    jvm_step X.here [X.here.top, hx, hd', hm', hret, hn, ht, hv]
    first | (intro acts; rw [hr _ acts rfl rfl rfl]) | rw [hr _ _ rfl rfl rfl]
    exact Steps.refl _
theorem own_retV (X : Stand p l e R s m args below meth c T locs cells slots) (hx : p.tables.exec = Jvm.exec) (hby : c.code = bc) (hret : meth.sig.returnType = none) (hk : meth.locks = false) (hd : decode bc pc = .ok (.return_, 1)) (hC : cells ≤ C) (hS : slots ≤ S) (q : Q none T.heap locs) : Ends p.tables e below (OwnFin s Q C S) (T.setTop (mkF m pc Ls [])) := by
  obtain ⟨fs, hr, hrun, hended, hW, hsame⟩ := X.leave (v := none) (fun _ => rfl) hk
  exact ⟨_, _, X.returnOut hx hret (hb hby hd) hr, hrun, hended, _, _, rfl, q, ⟨_, rfl⟩, hW, hsame.mono hC hS⟩
end Own
section OwnH
variable {p : Program} {l : Launch} {e : Env} {R : Room} {s : State} {m : MethodId} {args : Array Value} {below : List Frame} {meth : Method} {c : Code} {T : State} {locs : List Loc} {cells slots : Nat}
variable {Fz : Outcome → State → Prop} {bc : ByteArray} {pc pc' : Nat} {Ls Ls' : Array Slot} {st : List Value}
variable {Z : State} {a0 : Array Value} {h h0 : Heap} {n0 : Nat}
abbrev OwnMet (l : Launch) (Z : State) (y : MethodName) (bytes : ByteArray) (maxL : Nat) (rt : Option FieldType) (ws : List Jvm.Cond) (rm : Room) (as' : Array Value) (h0 : Heap) (Qc : Option Value → Heap → List Loc → Prop) : Prop :=
  MetFree l y (head1 (Jvm.Cond.code y bytes maxL rt :: ws) rm) (fun a U => a = as' ∧ Z.Warmed39 U.vm ∧ U.heap = h0) (fun _ _ _ _ _ => True) (fun _ U o U' => ∃ v L, o = .returned v ∧ Qc v U'.heap L ∧ FrameEnd U o U' L rm.cells rm.slots)
theorem own_body {y : MethodName} {bytes : ByteArray} {maxL : Nat} {rt : Option FieldType} {ws : List Jvm.Cond} {rm : Room} {as' : Array Value} {Qc : Option Value → Heap → List Loc → Prop} {Ls0 : Array Slot} (hpl : plainFor y = true) (hef : ∀ m : MethodId, entryFrame m as' maxL = mkF m 0 Ls0 [])
    (body : ∀ (p : Program) (e : Env) (s : State) (m : MethodId) (below : List Frame) (meth : Method) (c : Code) (s₁ : State), Stand p l e rm s m as' below meth c s₁ [] 0 0 → p.tables.exec = Jvm.exec → c.code = bytes → c.maxLocals = maxL → s.vm.findClass y.cls = some m.cls → meth.name = y.name → meth.sig.returnType = rt → meth.locks = false → Z.Warmed39 s.vm → s₁.heap = h0 → Ends p.tables e below (OwnFin s Qc rm.cells rm.slots) (s₁.setTop (mkF m 0 Ls0 []))) :
    OwnMet l Z y bytes maxL rt ws rm as' h0 Qc := by
  refine MetFree.of_bodySF hpl hisR ?_
  intro p e s m args below meth c s₁ Bd hml0 hP hK
  obtain ⟨rfl, hZ, hh⟩ := hP
  have e0 : s₁.heap = h0 := by rw [← hh, Bd.state]; rfl
  rw [hef]
  exact body p e s m below meth c s₁ (Stand.of_body Bd) Bd.exec Bd.bytes hml0 (findClass_of_methodNamed Bd.named) (name_of_methodNamed Bd.named Bd.method).1 Bd.returns Bd.notSynchronized hZ e0
theorem own_static (X : Stand p l e R s m args below meth c T locs cells slots) (hx : p.tables.exec = Jvm.exec) (hby : c.code = bc) (hZ : Z.Warmed39 s.vm) {own : String} {index : Nat} {y : MethodName} {bytes : ByteArray} {maxL : Nat} {rt r : Option FieldType} {ps : List FieldType} {rm : Room} {argsL rest : List Value} {Qc : Option Value → Heap → List Loc → Prop} {W : Nat}
    (hown : s.vm.findClass own = some m.cls) (w1 : (Jvm.Cond.methodLink own index y).before a0 Z = true) (w2 : (Jvm.Cond.static y).before a0 Z = true) (w3 : (Jvm.Cond.initialized y.cls).before a0 Z = true) (w4 : (Jvm.Cond.code y bytes maxL rt).before a0 Z = true) (hy : y.cls ≠ "java/lang/invoke/MethodHandle" ∧ y.cls ≠ "java/lang/invoke/VarHandle")
    (hM : OwnMet l Z y bytes maxL rt [] rm argsL.toArray h Qc) (eT : T.heap = h) (hml : Ls.size = c.maxLocals) (hlen : parseMethodDescriptor y.desc = some ⟨ps, r⟩) (hl : argsL.length = ps.length) (hf : rm.frames + 1 ≤ R.frames) (hW : (rest.map fun v => v.category).sum ≤ W) (hlo : W + (maxL + 11) + rm.locals ≤ R.locals) (hc : cells + rm.cells ≤ R.cells) (hs : slots + rm.slots ≤ R.slots)
    (hd : decode bc pc = .ok (.invokestatic index, 3)) (hp : pc + 3 = pc') (hst : st = argsL.reverse ++ rest)
    (kt : ∀ v T' L, Stand p l e R s m args below meth c T' (locs ++ L) (cells + rm.cells) (slots + rm.slots) → Qc v T'.heap L → Ends p.tables e below Fz (T'.setTop (mkF m pc' Ls (v.toList ++ rest)))) : Ends p.tables e below Fz (T.setTop (mkF m pc Ls st)) := by
  subst hp hst
  obtain ⟨v, vm₁, ⟨T', L', k', n'⟩, -, X', ⟨Lc, hQ, l', y', z'⟩, st⟩ := Jvm.LawKit.callS X hx (y := y) hown (mvT hZ w1) (mvT hZ w2) (mvT hZ w3) (mvT hZ w4) hy (backOf (W := W) hM hZ w4 w3 hf hlo) (g := mkF m pc Ls (argsL.reverse ++ rest)) rfl hml (argsL := argsL) (rest := rest) (lenOf hlen hl) rfl (by show 2 * 0 + _ ≤ _; omega) (hb hby hd) (fun _ _ => ⟨rfl, eT, hc, hs⟩)
  dsimp only [Pt.U, Pt.locs, Pt.cells, Pt.slots] at X' l' y' z' st hQ
  subst l' y' z'
  exact Ends.of st (kt v T' Lc X' hQ)
theorem own_special (X : Stand p l e R s m args below meth c T locs cells slots) (hx : p.tables.exec = Jvm.exec) (hby : c.code = bc) (hZ : Z.Warmed39 s.vm) {own : String} {index : Nat} {y : MethodName} {bytes : ByteArray} {maxL : Nat} {r : Option FieldType} {ps : List FieldType} {rm : Room} {a : Addr} {argsL rest : List Value} {Qc : Option Value → Heap → List Loc → Prop} {W : Nat}
    (hown : s.vm.findClass own = some m.cls) (hn : y.name = "<init>") (w1 : (Jvm.Cond.methodLink own index y).before a0 Z = true) (w2 : (Jvm.Cond.instanceMethod y).before a0 Z = true) (w3 : (Jvm.Cond.initialized y.cls).before a0 Z = true) (w4 : (Jvm.Cond.code y bytes maxL none).before a0 Z = true) (hy : y.cls ≠ "java/lang/invoke/MethodHandle" ∧ y.cls ≠ "java/lang/invoke/VarHandle")
    (hM : OwnMet l Z y bytes maxL none [] rm (Value.ref a :: argsL).toArray h Qc) (eT : T.heap = h) (hml : Ls.size = c.maxLocals) (hlen : parseMethodDescriptor y.desc = some ⟨ps, r⟩) (hl : argsL.length = ps.length) (hf : rm.frames + 1 ≤ R.frames) (hW : (rest.map fun v => v.category).sum ≤ W) (hlo : W + (maxL + 11) + rm.locals ≤ R.locals) (hc : cells + rm.cells ≤ R.cells) (hs : slots + rm.slots ≤ R.slots)
    (hd : decode bc pc = .ok (.invokespecial index, 3)) (hp : pc + 3 = pc') (hst : st = argsL.reverse ++ Value.ref a :: rest)
    (kt : ∀ v T' L, Stand p l e R s m args below meth c T' (locs ++ L) (cells + rm.cells) (slots + rm.slots) → Qc v T'.heap L → Ends p.tables e below Fz (T'.setTop (mkF m pc' Ls (v.toList ++ rest)))) : Ends p.tables e below Fz (T.setTop (mkF m pc Ls st)) := by
  subst hp hst
  obtain ⟨v, vm₁, ⟨T', L', k', n'⟩, -, X', ⟨Lc, hQ, l', y', z'⟩, st⟩ := X.specialBack hx (y := y) hn hown (mvT hZ w1) (mvT hZ w2) (mvT hZ w4) hy (backOf (W := W) hM hZ w4 w3 hf hlo) (g := mkF m pc Ls (argsL.reverse ++ Value.ref a :: rest)) rfl hml (Steps.refl _) (a := a) (argsL := argsL) (rest := rest) (lenOf hlen hl) rfl (by show 2 * 0 + _ ≤ _; omega) (hb hby hd) (fun _ _ => ⟨rfl, eT, hc, hs⟩)
  dsimp only [Pt.U, Pt.locs, Pt.cells, Pt.slots] at X' l' y' z' st hQ
  subst l' y' z'
  exact Ends.tr st (kt v T' Lc X' hQ)
theorem own_virtual (X : Stand p l e R s m args below meth c T locs cells slots) (hx : p.tables.exec = Jvm.exec) (hby : c.code = bc) (hZ : Z.Warmed39 s.vm) {own Cn : String} {index : Nat} {y : MethodName} {bytes : ByteArray} {maxL : Nat} {rt r : Option FieldType} {ps : List FieldType} {rm : Room} {a : Addr} {argsL rest : List Value} {Qc : Option Value → Heap → List Loc → Prop} {W : Nat}
    (hown : s.vm.findClass own = some m.cls) (w1 : (Jvm.Cond.methodLink own index y).before a0 Z = true) (wd : (Jvm.Cond.declares y).before a0 Z = true) (ws : (Jvm.Cond.selects Cn y y).before a0 Z = true) (w2 : (Jvm.Cond.instanceMethod y).before a0 Z = true) (w3 : (Jvm.Cond.initialized y.cls).before a0 Z = true) (w4 : (Jvm.Cond.code y bytes maxL rt).before a0 Z = true) (hy : y.cls ≠ "java/lang/invoke/MethodHandle" ∧ y.cls ≠ "java/lang/invoke/VarHandle")
    (hM : OwnMet l Z y bytes maxL rt [] rm (Value.ref a :: argsL).toArray h Qc) (E : Exa Z h a Cn) (eT : T.heap = h) (hml : Ls.size = c.maxLocals) (hlen : parseMethodDescriptor y.desc = some ⟨ps, r⟩) (hl : argsL.length = ps.length) (hf : rm.frames + 1 ≤ R.frames) (hW : (rest.map fun v => v.category).sum ≤ W) (hlo : W + (maxL + 11) + rm.locals ≤ R.locals) (hc : cells + rm.cells ≤ R.cells) (hs : slots + rm.slots ≤ R.slots)
    (hd : decode bc pc = .ok (.invokevirtual index, 3)) (hp : pc + 3 = pc') (hst : st = argsL.reverse ++ Value.ref a :: rest)
    (kt : ∀ v T' L, Stand p l e R s m args below meth c T' (locs ++ L) (cells + rm.cells) (slots + rm.slots) → Qc v T'.heap L → Ends p.tables e below Fz (T'.setTop (mkF m pc' Ls (v.toList ++ rest)))) : Ends p.tables e below Fz (T.setTop (mkF m pc Ls st)) := by
  subst hp hst
  obtain ⟨cq, kq, qa, qb, qc⟩ := isOf hZ eT E
  obtain ⟨v, vm₁, ⟨T', L', k', n'⟩, -, X', ⟨Lc, hQ, l', y', z'⟩, st⟩ := X.virtualBack hx (y := y) (z := y) hown (mvT hZ w1) (mvT hZ wd) (notFace_of_selects (args := #[]) (mvT hZ ws)) (mvT hZ ws) (mvT hZ w2) hy (backOf (W := W) hM hZ w4 w3 hf hlo) qa qc (g := mkF m pc Ls (argsL.reverse ++ Value.ref a :: rest)) rfl hml (Steps.refl _) (argsL := argsL) (rest := rest) (lenOf hlen hl) rfl (by show 2 * 0 + _ ≤ _; omega) (hb hby hd) (fun _ _ => ⟨rfl, eT, hc, hs⟩)
  dsimp only [Pt.U, Pt.locs, Pt.cells, Pt.slots] at X' l' y' z' st hQ
  subst l' y' z'
  exact Ends.tr st (kt v T' Lc X' hQ)
theorem own_initO (X : Stand p l e R s m args below meth c T locs cells slots) (hx : p.tables.exec = Jvm.exec) (hby : c.code = bc) (hZ : Z.Warmed39 s.vm) {own : String} {index : Nat} {a : Addr}
    (hown : s.vm.findClass own = some m.cls) (w1 : (Jvm.Cond.methodLink own index Lib.objectInit).before a0 Z = true) (w2 : (Jvm.Cond.instanceMethod Lib.objectInit).before a0 Z = true) (w3 : (Jvm.Cond.code Lib.objectInit ⟨#[0xb1]⟩ 1 none).before a0 Z = true) (eT : T.heap = h) (hml : Ls.size = c.maxLocals) (hf : 1 ≤ R.frames) {W : Nat} (hW : (st.map fun v => v.category).sum ≤ W) (hlo : W + 12 ≤ R.locals)
    (hd : decode bc pc = .ok (.invokespecial index, 3)) (hp : pc + 3 = pc')
    (kt : ∀ T', Stand p l e R s m args below meth c T' locs cells slots → T'.heap = h → Ends p.tables e below Fz (T'.setTop (mkF m pc' Ls st))) : Ends p.tables e below Fz (T.setTop (mkF m pc Ls (.ref a :: st))) := by
  subst hp
  obtain ⟨T', X', e', st⟩ := initO X hx hZ hown w1 w2 w3 eT (g := mkF m pc Ls (.ref a :: st)) rfl hml rfl (hb hby hd) hf (W := W) (by show 2 * 0 + _ ≤ _; omega) hlo
  exact Ends.of st (kt T' X' e')
theorem own_getfield (X : Stand p l e R s m args below meth c T locs cells slots) (hx : p.tables.exec = Jvm.exec) (hby : c.code = bc) (hZ : Z.Warmed39 s.vm) {own R0 O n d host : String} {index : Nat} {a : Addr} {v : Value}
    (hown : s.vm.findClass own = some m.cls) (w : (Jvm.Cond.fieldLink own index R0 n d).before a0 Z = true ∨ (Jvm.Cond.fieldLinkNest own index R0 n d host).before a0 Z = true) (via : Via Z R0 O n d) (eT : T.heap = h) (F : Fld Z h a O n d v)
    (hd : decode bc pc = .ok (.getfield index, 3)) (hp : pc + 3 = pc')
    (kt : ∀ T', Stand p l e R s m args below meth c T' locs cells slots → T'.heap = h → Ends p.tables e below Fz (T'.setTop (mkF m pc' Ls (v :: st)))) : Ends p.tables e below Fz (T.setTop (mkF m pc Ls (.ref a :: st))) := by
  subst hp
  obtain ⟨T', X', e', st⟩ := getF X hx hZ hown w via eT F (g := mkF m pc Ls (.ref a :: st)) rfl rfl (hb hby hd)
  exact Ends.of st (kt T' X' e')
theorem own_getstatic (X : Stand p l e R s m args below meth c T locs cells slots) (hx : p.tables.exec = Jvm.exec) (hby : c.code = bc) (hZ : Z.Warmed39 s.vm) {own R0 O n d host : String} {index : Nat} {v : Value}
    (hown : s.vm.findClass own = some m.cls) (w : (Jvm.Cond.fieldLink own index R0 n d).before a0 Z = true ∨ (Jvm.Cond.fieldLinkNest own index R0 n d host).before a0 Z = true) (via : Via Z R0 O n d) (eT : T.heap = h) (F : Sta Z h O n d v)
    (hd : decode bc pc = .ok (.getstatic index, 3)) (hp : pc + 3 = pc')
    (kt : ∀ T', Stand p l e R s m args below meth c T' locs cells slots → T'.heap = h → Ends p.tables e below Fz (T'.setTop (mkF m pc' Ls (v :: st)))) : Ends p.tables e below Fz (T.setTop (mkF m pc Ls st)) := by
  subst hp
  obtain ⟨T', X', e', st⟩ := getS2 X hx hZ hown w via eT F (g := mkF m pc Ls st) rfl (hb hby hd)
  exact Ends.of st (kt T' X' e')
theorem own_putfield (X : Stand p l e R s m args below meth c T locs cells slots) (hx : p.tables.exec = Jvm.exec) (hby : c.code = bc) (hZ : Z.Warmed39 s.vm) {own R0 O n d host Cn : String} {index kk : Nat} {ty : FieldType} {a : Addr} {v old : Value}
    (hown : s.vm.findClass own = some m.cls) (w : (Jvm.Cond.fieldLink own index R0 n d).before a0 Z = true ∨ (Jvm.Cond.fieldLinkNest own index R0 n d host).before a0 Z = true) (via : Via Z R0 O n d) (eT : T.heap = h) (F : Fld Z h a O n d old) (E : Exa Z h a Cn)
    (L : (Jvm.Cond.lays Cn O n d).before a0 Z = true ∨ ((Jvm.Cond.laysFinal Cn O n d).before a0 Z = true ∧ own = O ∧ meth.name = "<init>")) (wi : (Jvm.Cond.instantiable Cn kk).before a0 Z = true) (hty : parseFieldDescriptor d = some ty) (hn : narrow ty v = v) (hf : fits ty v = true) (N : Fr n0 locs) (ga : n0 ≤ a)
    (hd : decode bc pc = .ok (.putfield index, 3)) (hp : pc + 3 = pc')
    (kt : ∀ T' h' L', Stand p l e R s m args below meth c T' L' cells slots → T'.heap = h' → Wr h h' a (Jvm.RoadKit.slotOf Z O n d) v → Fr n0 L' → Ends p.tables e below Fz (T'.setTop (mkF m pc' Ls st))) : Ends p.tables e below Fz (T.setTop (mkF m pc Ls (v :: .ref a :: st))) := by
  subst hp
  obtain ⟨T', h', X', e', W', st⟩ := putF X hx hZ hown w via eT F E L wi hty hn hf (g := mkF m pc Ls (v :: .ref a :: st)) rfl rfl (hb hby hd)
  exact Ends.of st (kt T' h' _ X' e' W' (Fr.snoc X' N ga))
theorem own_new (X : Stand p l e R s m args below meth c T locs cells slots) (hx : p.tables.exec = Jvm.exec) (hby : c.code = bc) (hZ : Z.Warmed39 s.vm) {own Cn : String} {index n : Nat}
    (hown : s.vm.findClass own = some m.cls) (w : (Jvm.Cond.classLink own index Cn).before a0 Z = true) (wi : (Jvm.Cond.instantiable Cn n).before a0 Z = true) (wz : (Jvm.Cond.initialized Cn).before a0 Z = true) (eT : T.heap = h) (hc : cells + 1 ≤ R.cells) (hl : slots + n ≤ R.slots)
    (hd : decode bc pc = .ok (.new index, 3)) (hp : pc + 3 = pc')
    (kt : ∀ T' h' b, Stand p l e R s m args below meth c T' locs (cells + 1) (slots + n) → T'.heap = h' → b = h.size → Ext h h' → Exa Z h' b Cn → (∀ {O nm d : String} {ty : FieldType}, Laid Z a0 Cn O nm d → parseFieldDescriptor d = some ty → Fld Z h' b O nm d (defaultValue ty)) → Ends p.tables e below Fz (T'.setTop (mkF m pc' Ls (.ref b :: st)))) : Ends p.tables e below Fz (T.setTop (mkF m pc Ls st)) := by
  subst hp
  obtain ⟨T', h', X', e', E', A', D', -, st⟩ := newO X hx hZ hown w wi wz eT (g := mkF m pc Ls st) rfl (hb hby hd) hc hl
  exact Ends.of st (kt T' h' _ X' e' rfl E' A' D')
theorem own_newarray (X : Stand p l e R s m args below meth c T locs cells slots) (hx : p.tables.exec = Jvm.exec) (hby : c.code = bc) (hZ : Z.Warmed39 s.vm) {aty : ArrayType} {n : Int32}
    (w : (Jvm.Cond.arrayClass (newarray.typeOf aty)).before a0 Z = true) (eT : T.heap = h) (hn : ¬ n < 0) (cap : Nat) (hcap : n.toNatClampNeg ≤ cap) (hb8 : cap * 8 ≤ 536870912) (hc : cells + 1 ≤ R.cells) (hl : slots + cap ≤ R.slots)
    (ty : FieldType) (hty : newarray.typeOf aty = ty) (vs : List Value) (hvs : List.replicate n.toNatClampNeg (defaultValue ty) = vs)
    (hd : decode bc pc = .ok (.newarray aty, 2)) (hp : pc + 2 = pc')
    (kt : ∀ T' h' b k, Stand p l e R s m args below meth c T' locs (cells + 1) (slots + cap) → T'.heap = h' → b = h.size → Ext h h' → Arv Z h' b k ty n vs (defaultValue ty) → Ends p.tables e below Fz (T'.setTop (mkF m pc' Ls (.ref b :: st)))) : Ends p.tables e below Fz (T.setTop (mkF m pc Ls (.int n :: st))) := by
  subst hp hty hvs
  obtain ⟨T', h', k', X', e', E', A', st⟩ := newP X hx hZ w eT (g := mkF m pc Ls (.int n :: st)) rfl (hb hby hd) rfl hn hcap hb8 hc hl
  exact Ends.of st (kt T' h' _ k' X' e' rfl E' ((Arv.new A' hn).pad (pad_rep [] _ _)))
theorem own_arraylength (X : Stand p l e R s m args below meth c T locs cells slots) (hx : p.tables.exec = Jvm.exec) (hby : c.code = bc) (hZ : Z.Warmed39 s.vm) {ty : FieldType} {a : Addr} {k : ClassId} {n : Int32} {vs : List Value} {dv : Value}
    (eT : T.heap = h) (V : Arv Z h a k ty n vs dv) (hd : decode bc pc = .ok (.arraylength, 1)) (hp : pc + 1 = pc')
    (kt : Ends p.tables e below Fz (T.setTop (mkF m pc' Ls (.int n :: st)))) : Ends p.tables e below Fz (T.setTop (mkF m pc Ls (.ref a :: st))) := by
  subst hp
  obtain ⟨cl, A, -, Sz, Nn, -, -⟩ := V
  exact Ends.of (fun _ q => X.arraylength hx (by rw [eT]; exact A.1) (State.isArrayOf_alike hZ.alike A.2.1) (g := mkF m pc Ls (.ref a :: st)) rfl rfl (hb hby hd) _ (by rw [len_of Sz Nn]; exact q)) kt
theorem own_caload (X : Stand p l e R s m args below meth c T locs cells slots) (hx : p.tables.exec = Jvm.exec) (hby : c.code = bc) (hZ : Z.Warmed39 s.vm) {a : Addr} {k : ClassId} {n j : Int32} {vs : List Value} {dv : Value} (v : Int32)
    (eT : T.heap = h) (V : Arv Z h a k .char n vs dv) (hj : ¬ j < 0 ∧ j < n) (hv : vs.getD j.toNatClampNeg dv = .int v) (hd : decode bc pc = .ok (.caload, 1)) (hp : pc + 1 = pc')
    (kt : Ends p.tables e below Fz (T.setTop (mkF m pc' Ls (.int v :: st)))) : Ends p.tables e below Fz (T.setTop (mkF m pc Ls (.int j :: .ref a :: st))) := by
  subst hp
  obtain ⟨cl, A, -, Sz, Nn, H, -⟩ := V
  exact Ends.of (fun _ q => X.caload hx (j := j) (v := .int v) (by rw [eT]; exact A.1) (State.isArrayOf_alike hZ.alike A.2.1) A.2.2 (inb_of Sz hj) (H.at (inb_of Sz hj) hv) (g := mkF m pc Ls (.int j :: .ref a :: st)) rfl rfl (hb hby hd) _ q) kt
theorem own_baload (X : Stand p l e R s m args below meth c T locs cells slots) (hx : p.tables.exec = Jvm.exec) (hby : c.code = bc) (hZ : Z.Warmed39 s.vm) {a : Addr} {k : ClassId} {n j : Int32} {vs : List Value} {dv : Value} (v : Int32)
    (eT : T.heap = h) (V : Arv Z h a k .byte n vs dv) (hj : ¬ j < 0 ∧ j < n) (hv : vs.getD j.toNatClampNeg dv = .int v) (hd : decode bc pc = .ok (.baload, 1)) (hp : pc + 1 = pc')
    (kt : Ends p.tables e below Fz (T.setTop (mkF m pc' Ls (.int v :: st)))) : Ends p.tables e below Fz (T.setTop (mkF m pc Ls (.int j :: .ref a :: st))) := by
  subst hp
  obtain ⟨cl, A, -, Sz, Nn, H, -⟩ := V
  exact Ends.of (fun _ q => X.baloadBytes hx (j := j) (v := .int v) (by rw [eT]; exact A.1) (State.isArrayOf_alike hZ.alike A.2.1) A.2.2 (inb_of Sz hj) (H.at (inb_of Sz hj) hv) (g := mkF m pc Ls (.int j :: .ref a :: st)) rfl rfl (hb hby hd) _ q) kt
theorem own_castore (X : Stand p l e R s m args below meth c T locs cells slots) (hx : p.tables.exec = Jvm.exec) (hby : c.code = bc) (hZ : Z.Warmed39 s.vm) {a : Addr} {k : ClassId} {n j : Int32} {vs : List Value} {dv : Value} {x : Int32} (v' : Int32) (hv' : (nar .char x) = v')
    (eT : T.heap = h) (V : Arv Z h a k .char n vs dv) (hj : ¬ j < 0 ∧ j < n) (i : Nat) (hi : j.toNatClampNeg = i) (hil : i < vs.length) (vs' : List Value) (hvs : vs.set i (.int v') = vs') (hfit : fits .char (.int v') = true) (N : Fr n0 locs) (ga : n0 ≤ a) (hd : decode bc pc = .ok (.castore, 1)) (hp : pc + 1 = pc')
    (kt : ∀ T' h' L', Stand p l e R s m args below meth c T' L' cells slots → T'.heap = h' → Wr h h' a j.toNatClampNeg (.int v') → Arv Z h' a k .char n vs' dv → Fr n0 L' → Ends p.tables e below Fz (T'.setTop (mkF m pc' Ls st))) : Ends p.tables e below Fz (T.setTop (mkF m pc Ls (.int x :: .int j :: .ref a :: st))) := by
  subst hp hvs hv'
  obtain ⟨cl, A, q1, Sz, Nn, H, G⟩ := V
  obtain ⟨T', h', X', e', W', st⟩ := stC X hx hZ eT A (j := j) (inb_of Sz hj) (g := mkF m pc Ls (.int x :: .int j :: .ref a :: st)) rfl rfl (hb hby hd)
  exact Ends.of st (kt T' h' _ X' e' W' (Arv.set A q1 Sz Nn H G hfit W' i hi hil) (Fr.snoc X' N ga))
theorem own_bastore (X : Stand p l e R s m args below meth c T locs cells slots) (hx : p.tables.exec = Jvm.exec) (hby : c.code = bc) (hZ : Z.Warmed39 s.vm) {a : Addr} {k : ClassId} {n j : Int32} {vs : List Value} {dv : Value} {x : Int32} (v' : Int32) (hv' : (nar .byte x) = v')
    (eT : T.heap = h) (V : Arv Z h a k .byte n vs dv) (hj : ¬ j < 0 ∧ j < n) (i : Nat) (hi : j.toNatClampNeg = i) (hil : i < vs.length) (vs' : List Value) (hvs : vs.set i (.int v') = vs') (hfit : fits .byte (.int v') = true) (N : Fr n0 locs) (ga : n0 ≤ a) (hd : decode bc pc = .ok (.bastore, 1)) (hp : pc + 1 = pc')
    (kt : ∀ T' h' L', Stand p l e R s m args below meth c T' L' cells slots → T'.heap = h' → Wr h h' a j.toNatClampNeg (.int v') → Arv Z h' a k .byte n vs' dv → Fr n0 L' → Ends p.tables e below Fz (T'.setTop (mkF m pc' Ls st))) : Ends p.tables e below Fz (T.setTop (mkF m pc Ls (.int x :: .int j :: .ref a :: st))) := by
  subst hp hvs hv'
  obtain ⟨cl, A, q1, Sz, Nn, H, G⟩ := V
  obtain ⟨T', h', X', e', W', st⟩ := stB X hx hZ eT A (j := j) (inb_of Sz hj) (g := mkF m pc Ls (.int x :: .int j :: .ref a :: st)) rfl rfl (hb hby hd)
  exact Ends.of st (kt T' h' _ X' e' W' (Arv.set A q1 Sz Nn H G hfit W' i hi hil) (Fr.snoc X' N ga))
theorem own_checkcast (X : Stand p l e R s m args below meth c T locs cells slots) (hx : p.tables.exec = Jvm.exec) (hby : c.code = bc) (hZ : Z.Warmed39 s.vm) {own K : String} {index : Nat} {a : Addr}
    (hown : s.vm.findClass own = some m.cls) (w : (Jvm.Cond.classLink own index K).before a0 Z = true) (eT : T.heap = h) (F : Ins Z h a K true) (hd : decode bc pc = .ok (.checkcast index, 3)) (hp : pc + 3 = pc')
    (kt : ∀ T', Stand p l e R s m args below meth c T' locs cells slots → T'.heap = h → Ends p.tables e below Fz (T'.setTop (mkF m pc' Ls (.ref a :: st)))) : Ends p.tables e below Fz (T.setTop (mkF m pc Ls (.ref a :: st))) := by
  subst hp
  obtain ⟨T', X', e', st⟩ := castY X hx hZ hown w eT F (g := mkF m pc Ls (.ref a :: st)) rfl rfl (hb hby hd)
  exact Ends.of st (kt T' X' e')
theorem own_arraycopy (X : Stand p l e R s m args below meth c T locs cells slots) (hx : p.tables.exec = Jvm.exec) (hby : c.code = bc) (hZ : Z.Warmed39 s.vm) {own : String} {index : Nat} {a b : Addr} {k k' : ClassId} {ty ty' : FieldType} {z z' sp dp nn : Int32} {vs vd us : List Value} {dv dd : Value}
    (hown : s.vm.findClass own = some m.cls) (w1 : (Jvm.Cond.methodLink own index Jvm.Stand.acN).before a0 Z = true) (w2 : (Jvm.Cond.native Jvm.Stand.acN).before a0 Z = true) (w3 : (Jvm.Cond.static Jvm.Stand.acN).before a0 Z = true) (w4 : (Jvm.Cond.initialized "java/lang/System").before a0 Z = true) (eT : T.heap = h)
    (A : Arv Z h a k ty z vs dv) (B : Arv Z h b k' ty' z' vd dd) (hty : (ty = ty' ∧ refKind ty = false) ∨ (refKind ty = true ∧ refKind ty' = true ∧ StoL Z h b us))
    (h1 : ¬ sp < 0) (h2 : ¬ dp < 0) (h3 : ¬ nn < 0) (h4 : sp.toNatClampNeg + nn.toNatClampNeg ≤ z.toNatClampNeg) (h5 : dp.toNatClampNeg + nn.toNatClampNeg ≤ z'.toNatClampNeg)
    (hus : us = (List.range nn.toNatClampNeg).map fun i => vs.getD (sp.toNatClampNeg + i) dv) (hl : dp.toNatClampNeg + nn.toNatClampNeg ≤ vd.length) (N : Fr n0 locs) (ge : n0 ≤ b) (vs' : List Value) (hvs : vd.take dp.toNatClampNeg ++ us ++ vd.drop (dp.toNatClampNeg + nn.toNatClampNeg) = vs')
    (hml : Ls.size = c.maxLocals) (hf : 1 ≤ R.frames) {W : Nat} (hW : (st.map fun v => v.category).sum ≤ W) (hlo : W + (nativeFrameWords "java/lang/System" "arraycopy" 5 + 11) ≤ R.locals)
    (hd : decode bc pc = .ok (.invokestatic index, 3)) (hp : pc + 3 = pc')
    (kt : ∀ T' h' L, Stand p l e R s m args below meth c T' L cells slots → T'.heap = h' → Fr n0 L → Keep h h' [b] → Arv Z h' b k' ty' z' vs' dd → Ends p.tables e below Fz (T'.setTop (mkF m pc' Ls st))) : Ends p.tables e below Fz (T.setTop (mkF m pc Ls (.int nn :: .int dp :: .ref b :: .int sp :: .ref a :: st))) := by
  subst hp hvs
  obtain ⟨T', h', L, X', e', N', K', V', st⟩ := cpA X hx hZ hown w1 w2 w3 w4 eT A B hty h1 h2 h3 h4 h5 hus hl N ge (g := mkF m pc Ls (.int nn :: .int dp :: .ref b :: .int sp :: .ref a :: st)) rfl hml rfl (hb hby hd) hf (W := W) (by show 2 * 0 + _ ≤ _; omega) hlo
  exact Ends.of st (kt T' h' L X' e' N' K' V')
theorem own_ge {b : Addr} (O : Old Z n0 h) (g : b = h.size) : n0 ≤ b := by rw [g]; exact O.1 ▸ O.2.1
theorem own_lt {x b : Addr} (hx : x < h.size) (g : b = h.size) : x ≠ b := by rw [g]; exact Nat.ne_of_lt hx
end OwnH
section OwnW
variable {p : Program} {l : Launch} {e : Env} {R : Room} {s : State} {m : MethodId} {args : Array Value} {below : List Frame} {meth : Method} {c : Code} {T : State} {locs : List Loc} {cells slots : Nat}
variable {Fz : Outcome → State → Prop} {bc : ByteArray} {pc pc' : Nat} {Ls Ls' : Array Slot} {st : List Value}
variable {Z : State} {a0 : Array Value} {h h0 : Heap} {n0 : Nat} {vm0 : Vm} {k0 : Nat} {Q : Option Value → Heap → List Loc → Prop} {C S : Nat}
def OwnFinW (s : State) (Q : Option Value → Heap → List Loc → Prop) (C S : Nat) (o : Outcome) (s₂ : State) : Prop := ∃ v L, o = .returned v ∧ Q v s₂.heap L ∧ ReturnedEndW s o s₂ L C S
abbrev OwnMetW (l : Launch) (Z : State) (y : MethodName) (bytes : ByteArray) (maxL : Nat) (rt : Option FieldType) (ws : List Jvm.Cond) (rm : Room) (as' : Array Value) (h0 : Heap) (Qc : Option Value → Heap → List Loc → Prop) : Prop :=
  MetFree l y (head1 (Jvm.Cond.code y bytes maxL rt :: ws) rm) (fun a U => a = as' ∧ Z.Warmed39 U.vm ∧ U.heap = h0) (fun _ _ _ _ _ => True) (fun _ U o U' => ∃ v L, o = .returned v ∧ Qc v U'.heap L ∧ ReturnedEndW U o U' L rm.cells rm.slots)
end OwnW
section OwnHH
variable {p : Program} {l : Launch} {e : Env} {R : Room} {s : State} {m : MethodId} {args : Array Value} {below : List Frame} {meth : Method} {c : Code} {T : State} {locs : List Loc} {cells slots : Nat}
variable {Fz : Outcome → State → Prop} {bc : ByteArray} {pc pc' : Nat} {Ls Ls' : Array Slot} {st : List Value}
variable {Z : State} {a0 : Array Value} {h h0 : Heap} {n0 : Nat} {vm0 : Vm} {EL : List (String × Nat)} {xs : List Addr} {k0 : Nat} {Q : Option Value → Heap → List Loc → Prop} {C S : Nat}
def OwnFinH (Z : State) (EL : List (String × Nat)) (s : State) (Q : Option Value → Heap → List Loc → Prop) (C S : Nat) (o : Outcome) (s₂ : State) : Prop := ∃ v L, o = .returned v ∧ Q v s₂.heap L ∧ CHr Z EL s.vm s.heap s₂.vm s₂.heap ∧ ReturnedEndW s o s₂ L C S
abbrev OwnMetH (l : Launch) (Z : State) (EL : List (String × Nat)) (xs : List Addr) (y : MethodName) (bytes : ByteArray) (maxL : Nat) (rt : Option FieldType) (ws : List Jvm.Cond) (rm : Room) (as' : Array Value) (h0 : Heap) (Qc : Option Value → Heap → List Loc → Prop) : Prop :=
  MetFree l y (head1 (Jvm.Cond.code y bytes maxL rt :: ws) rm) (fun a U => a = as' ∧ Z.Warmed39 U.vm ∧ U.heap = h0 ∧ CHv Z EL U.vm h0 ∧ ∀ x ∈ xs, Safe Z EL U.vm h0 x) (fun _ _ _ _ _ => True) (fun _ U o U' => ∃ v L, o = .returned v ∧ Qc v U'.heap L ∧ CHr Z EL U.vm U.heap U'.vm U'.heap ∧ ReturnedEndW U o U' L rm.cells rm.slots)
theorem own_bodyH {y : MethodName} {bytes : ByteArray} {maxL : Nat} {rt : Option FieldType} {ws : List Jvm.Cond} {rm : Room} {as' : Array Value} {Qc : Option Value → Heap → List Loc → Prop} {Ls0 : Array Slot} (hpl : plainFor y = true) (hef : ∀ m : MethodId, entryFrame m as' maxL = mkF m 0 Ls0 [])
    (body : ∀ (p : Program) (e : Env) (s : State) (m : MethodId) (below : List Frame) (meth : Method) (c : Code) (s₁ : State), Stand p l e rm (s.setVm s.vm) m as' below meth c s₁ [] 0 0 → p.tables.exec = Jvm.exec → c.code = bytes → c.maxLocals = maxL → (s.setVm s.vm).vm.findClass y.cls = some m.cls → meth.name = y.name → meth.sig.returnType = rt → meth.locks = false → Z.Warmed39 (s.setVm s.vm).vm → s₁.heap = h0 → s.heap = h0 → s.Since s.vm h0.size → CHv Z EL s.vm h0 → (∀ x ∈ xs, Safe Z EL s.vm h0 x) → Ends p.tables e below (OwnFinH Z EL s Qc rm.cells rm.slots) (s₁.setTop (mkF m 0 Ls0 []))) :
    OwnMetH l Z EL xs y bytes maxL rt ws rm as' h0 Qc := by
  refine MetFree.of_bodySF hpl hisR ?_
  intro p e s m args below meth c s₁ Bd hml0 hP hK
  obtain ⟨rfl, hZ, hh, hH, hxs⟩ := hP
  have e0 : s₁.heap = h0 := by rw [← hh, Bd.state]; rfl
  rw [hef]
  exact body p e s m below meth c s₁ (Stand.of_body Bd) Bd.exec Bd.bytes hml0 (findClass_of_methodNamed Bd.named) (name_of_methodNamed Bd.named Bd.method).1 Bd.returns Bd.notSynchronized hZ e0 hh ((State.WarmedH.refl s).since _) hH hxs
theorem own_retH (X : Stand p l e R (s.setVm vm0) m args below meth c T locs cells slots) (hx : p.tables.exec = Jvm.exec) (hby : c.code = bc) {v : Value} {t : FieldType} {i : Instr} (hret : meth.sig.returnType = some t) (hk : meth.locks = false) (hd : decode bc pc = .ok (i, 1)) (v' : Value) (hn : narrow t v = v')
    (hi : (i = .ireturn ∧ (t = .int ∨ t = .boolean ∨ t = .byte ∨ t = .char ∨ t = .short) ∧ ∃ z, v = .int z) ∨ (i = .lreturn ∧ t = .long ∧ ∃ z, v = .long z) ∨ (i = .areturn ∧ t.isReference = true ∧ v.isRef = true))
    (hZ : Z.Warmed39 (s.setVm vm0).vm) (hEL : EW Z a0 EL) (Rr : CHr Z EL s.vm s.heap vm0 T.heap) (hS : s.Since vm0 k0) (hk0 : k0 ≤ T.heap.size) (hC : cells ≤ C) (hSl : slots ≤ S) (q : Q (some v') T.heap locs) : Ends p.tables e below (OwnFinH Z EL s Q C S) (T.setTop (mkF m pc Ls (v :: st))) := by
  obtain ⟨fs, hr, hrun, hended, hE⟩ := X.leaveW hS hk0 (v := some v') (fun h => by rw [hret] at h; cases h) hk
  have hCf := Rr.trans (CHv.at X hZ hEL Rr.1)
  refine ⟨_, _, ?_, hrun, hended, _, _, rfl, q, hCf, hE.1, hE.2.1, hE.2.2.1, hE.2.2.2.mono hC hSl⟩
  have hm' : T.vm.method? m = some meth := X.method'
  show Steps p.tables e below (T.setTop { method := m, pc := pc, locals := Ls, stack := v :: st, locked := none }) _
  have hd' := hb hby hd
  rcases hi with ⟨rfl, ht, z, rfl⟩ | ⟨rfl, rfl, z, rfl⟩ | ⟨rfl, ht, hv⟩
  · rcases ht with rfl | rfl | rfl | rfl | rfl <;> (jvm_step X.here [X.here.top, hx, hd', hm', hret, hn]; first | (intro acts; rw [hr _ acts rfl rfl rfl]) | rw [hr _ _ rfl rfl rfl]) <;> exact Steps.refl _
  · have hn2 : Value.long z = v' := hn
    subst hn2
    jvm_step X.here [X.here.top, hx, hd', hm', hret, hn]
    first | (intro acts; rw [hr _ acts rfl rfl rfl]) | rw [hr _ _ rfl rfl rfl]
    exact Steps.refl _
  · have hn2 : v = v' := by rw [← hn]; rcases ref_cases hv with rfl | ⟨z, rfl⟩ <;> cases t <;> rfl
    subst hn2
    jvm_step X.here [X.here.top, hx, hd', hm', hret, hn, ht, hv]
    first | (intro acts; rw [hr _ acts rfl rfl rfl]) | rw [hr _ _ rfl rfl rfl]
    exact Steps.refl _
theorem own_retVH (X : Stand p l e R (s.setVm vm0) m args below meth c T locs cells slots) (hx : p.tables.exec = Jvm.exec) (hby : c.code = bc) (hret : meth.sig.returnType = none) (hk : meth.locks = false) (hd : decode bc pc = .ok (.return_, 1)) (hZ : Z.Warmed39 (s.setVm vm0).vm) (hEL : EW Z a0 EL) (Rr : CHr Z EL s.vm s.heap vm0 T.heap) (hS : s.Since vm0 k0) (hk0 : k0 ≤ T.heap.size) (hC : cells ≤ C) (hSl : slots ≤ S) (q : Q none T.heap locs) : Ends p.tables e below (OwnFinH Z EL s Q C S) (T.setTop (mkF m pc Ls [])) := by
  obtain ⟨fs, hr, hrun, hended, hE⟩ := X.leaveW hS hk0 (v := none) (fun _ => rfl) hk
  have hCf := Rr.trans (CHv.at X hZ hEL Rr.1)
  exact ⟨_, _, X.returnOut hx hret (hb hby hd) hr, hrun, hended, _, _, rfl, q, hCf, hE.1, hE.2.1, hE.2.2.1, hE.2.2.2.mono hC hSl⟩
theorem own_ldcH (X : Stand p l e R (s.setVm vm0) m args below meth c T locs cells slots) (hx : p.tables.exec = Jvm.exec) (hby : c.code = bc) (hZ : Z.Warmed39 (s.setVm vm0).vm) {own text : String} {index : Nat} (hown : (s.setVm vm0).vm.findClass own = some m.cls) (w : (Jvm.Cond.stringLink own index text).before a0 Z = true) (wS : ∀ a ∈ Bundle.stringAtoms, a.before a0 Z = true)
    (eT : T.heap = h) (hS : s.Since vm0 k0) (hk : k0 ≤ h.size) (hEL : EW Z a0 EL) (hmem : (own, index) ∈ EL) (H : CHv Z EL vm0 h) (vs : List Value) (z : Int32) (ht : (∀ c ∈ text.toList, c.toNat < 256) ∧ text.toList.map (fun c => Value.int (Jvm.Lit.byteI c.toNat.toUInt16)) = vs) (hz : ¬ z < 0) (hzl : z.toNatClampNeg = vs.length)
    (n : Nat) (hn : 4 * text.toList.length ≤ n) (hbig : n ≤ 536870912) (hc : cells + 2 ≤ R.cells) (hl : slots + (n + 4) ≤ R.slots) (hd : decode bc pc = .ok (.ldc index, 2)) (hp : pc + 2 = pc')
    (kt : ∀ a T' h' k1 b k, Stand p l e R (s.setVm T'.vm) m args below meth c T' locs (cells + 2) (slots + (n + 4)) → T'.heap = h' → Ext h h' → s.Since T'.vm k1 → k1 ≤ h'.size → Z.Warmed39 (s.setVm T'.vm).vm → (s.setVm T'.vm).vm.findClass own = some m.cls →
      Exa Z h' a "java/lang/String" → Fld Z h' a "java/lang/String" "coder" "B" (.int 0) → Fld Z h' a "java/lang/String" "value" "[B" (.ref b) → Arv Z h' b k .byte z vs (.int 0) → CHr Z EL vm0 h T'.vm h' → (∀ x, Safe Z EL T'.vm h' x → x ≠ a ∧ x ≠ b) → Ends p.tables e below Fz (T'.setTop (mkF m pc' Ls (.ref a :: st)))) : Ends p.tables e below Fz (T.setTop (mkF m pc Ls st)) := by
  subst hp
  obtain ⟨a, T', h', k1, b, k, X', e', E', S', hk', hZ', ho', f1, f2, f3, f4, -, -, hC, -, hSf, st⟩ := ldcCH X hx hZ hown w wS eT hS hk hEL hmem H ht hz hzl (g := mkF m pc Ls st) rfl (hb hby hd) hn hbig hc hl
  exact Ends.of st (kt a T' h' k1 b k X' e' E' S' hk' hZ' ho' f1 f2 f3 f4 hC hSf)
theorem own_backH {y : MethodName} {bytes : ByteArray} {maxL : Nat} {rt : Option FieldType} {rm : Room} {len W : Nat} {as' : Array Value} {Qc : Option Value → Heap → List Loc → Prop} (hM : OwnMetH l Z EL xs y bytes maxL rt [] rm as' h Qc) (hZ : Z.Warmed39 vm0) (wc : (Jvm.Cond.code y bytes maxL rt).before a0 Z = true) (wz : (Jvm.Cond.initialized y.cls).before a0 Z = true) (hf : rm.frames + 1 ≤ R.frames) (hl : W + (maxL + 11) + rm.locals ≤ R.locals) (hEL : EW Z a0 EL) (H : CHv Z EL vm0 h) (hsf : ∀ x ∈ xs, x < h.size ∧ Safe Z EL vm0 h x) :
    BackS l R p e below (s.setVm vm0) args y len W (fun A a => a = as' ∧ A.U.heap = h ∧ A.cells + rm.cells ≤ R.cells ∧ A.slots + rm.slots ≤ R.slots) (fun A _ v B => ∃ L, Qc v B.U.heap L ∧ B.locs = A.locs ++ L ∧ B.cells = A.cells + rm.cells ∧ B.slots = A.slots + rm.slots ∧ CHr Z EL vm0 h B.U.vm B.U.heap) := by
  have hU : ∀ {m : MethodId} {meth : Method} {c : Code} {A : Pt}, Stand p l e R (s.setVm vm0) m args below meth c A.U A.locs A.cells A.slots → Z.Warmed39 A.U.vm := fun Y => wtrans (s := s.setVm vm0) hZ Y.warmed
  refine BackS.of_freeW (bytes := bytes) (maxL := maxL) (ret := rt) (E := fun _ first o t L k n => k = rm.cells ∧ n = rm.slots ∧ (∃ v, o = .returned v ∧ Qc v t.heap L) ∧ CHr Z EL first.vm first.heap t.vm t.heap) hM hf hl ?_ ?_ ?_ ?_ ?_
  · intro m meth c A a Y hp
    refine ⟨?_, mv (hU Y) wc, mv (hU Y) wz, hp.2.2.1, hp.2.2.2⟩
    show (Jvm.Cond.and _ .tt).before a A.U = true
    rw [Jvm.Cond.before_and, mv (hU Y) wc]; rfl
  · intro m meth c A a g mk Y hp
    have hC := CHv.at Y hZ hEL H
    exact ⟨hp.1, hU Y, hp.2.1, hC.1, fun x hx => hC.safe (hsf x hx).1 (hsf x hx).2⟩
  · intros; trivial
  · intro a first o t ⟨v, L, h1, h2, h3, h4⟩
    exact ⟨L, _, _, h4, rfl, rfl, ⟨v, h1, h2⟩, h3⟩
  · intro m meth c A a g mk v t L k n Y hp _ _ ⟨e1, e2, ⟨v', e3, e4⟩, e5⟩
    cases e3; subst e1 e2
    refine ⟨L, e4, rfl, rfl, rfl, (CHv.at Y hZ hEL H).trans ?_⟩
    rw [← hp.2.1]; exact e5
theorem own_specialH (X : Stand p l e R (s.setVm vm0) m args below meth c T locs cells slots) (hx : p.tables.exec = Jvm.exec) (hby : c.code = bc) (hZ : Z.Warmed39 (s.setVm vm0).vm) {own : String} {index : Nat} {y : MethodName} {bytes : ByteArray} {maxL : Nat} {r : Option FieldType} {ps : List FieldType} {rm : Room} {a : Addr} {argsL rest : List Value} {Qc : Option Value → Heap → List Loc → Prop} {W : Nat}
    (hown : (s.setVm vm0).vm.findClass own = some m.cls) (hn : y.name = "<init>") (w1 : (Jvm.Cond.methodLink own index y).before a0 Z = true) (w2 : (Jvm.Cond.instanceMethod y).before a0 Z = true) (w3 : (Jvm.Cond.initialized y.cls).before a0 Z = true) (w4 : (Jvm.Cond.code y bytes maxL none).before a0 Z = true) (hy : y.cls ≠ "java/lang/invoke/MethodHandle" ∧ y.cls ≠ "java/lang/invoke/VarHandle")
    (hM : OwnMetH l Z EL xs y bytes maxL none [] rm (Value.ref a :: argsL).toArray h Qc) (eT : T.heap = h) (hS : s.Since vm0 k0) (hk : k0 ≤ h.size) (hEL : EW Z a0 EL) (H : CHv Z EL vm0 h) (hsf : ∀ x ∈ xs, x < h.size ∧ Safe Z EL vm0 h x) (hml : Ls.size = c.maxLocals) (hlen : parseMethodDescriptor y.desc = some ⟨ps, r⟩) (hl : argsL.length = ps.length) (hf : rm.frames + 1 ≤ R.frames) (hW : (rest.map fun v => v.category).sum ≤ W) (hlo : W + (maxL + 11) + rm.locals ≤ R.locals) (hc : cells + rm.cells ≤ R.cells) (hs : slots + rm.slots ≤ R.slots)
    (hd : decode bc pc = .ok (.invokespecial index, 3)) (hp : pc + 3 = pc') (hst : st = argsL.reverse ++ Value.ref a :: rest)
    (kt : ∀ v T' L, Stand p l e R (s.setVm T'.vm) m args below meth c T' (locs ++ L) (cells + rm.cells) (slots + rm.slots) → s.Since T'.vm T'.heap.size → Z.Warmed39 (s.setVm T'.vm).vm → (s.setVm T'.vm).vm.findClass own = some m.cls → CHr Z EL vm0 h T'.vm T'.heap → Qc v T'.heap L → Ends p.tables e below Fz (T'.setTop (mkF m pc' Ls (v.toList ++ rest)))) : Ends p.tables e below Fz (T.setTop (mkF m pc Ls st)) := by
  subst hp hst
  obtain ⟨v, vm₁, ⟨T', L', k', n'⟩, -, X', S', g', ⟨Lc, hQ, l', y', z', hR⟩, st⟩ := X.specialBackS hx (y := y) hn hown (mvT hZ w1) (mvT hZ w2) (mvT hZ w4) hy (own_backH (W := W) hM hZ w4 w3 hf hlo hEL H hsf) (g := mkF m pc Ls (argsL.reverse ++ Value.ref a :: rest)) rfl hml (Steps.refl _) (a := a) (argsL := argsL) (rest := rest) (lenOf hlen hl) rfl (by show 2 * 0 + _ ≤ _; omega) (hb hby hd) (fun _ _ => ⟨rfl, eT, hc, hs⟩)
  dsimp only [Pt.U, Pt.locs, Pt.cells, Pt.slots] at X' S' g' l' y' z' st hQ hR
  subst l' y' z'
  obtain ⟨X2, S2, Z2, o2⟩ := rebS hS (eT ▸ hk) X' S' g' hZ hown
  exact Ends.tr st (kt v T' Lc X2 S2 Z2 o2 hR hQ)
theorem own_staticH (X : Stand p l e R (s.setVm vm0) m args below meth c T locs cells slots) (hx : p.tables.exec = Jvm.exec) (hby : c.code = bc) (hZ : Z.Warmed39 (s.setVm vm0).vm) {own : String} {index : Nat} {y : MethodName} {bytes : ByteArray} {maxL : Nat} {rt r : Option FieldType} {ps : List FieldType} {rm : Room} {argsL rest : List Value} {Qc : Option Value → Heap → List Loc → Prop} {W : Nat}
    (hown : (s.setVm vm0).vm.findClass own = some m.cls) (w1 : (Jvm.Cond.methodLink own index y).before a0 Z = true) (w2 : (Jvm.Cond.static y).before a0 Z = true) (w3 : (Jvm.Cond.initialized y.cls).before a0 Z = true) (w4 : (Jvm.Cond.code y bytes maxL rt).before a0 Z = true) (hy : y.cls ≠ "java/lang/invoke/MethodHandle" ∧ y.cls ≠ "java/lang/invoke/VarHandle")
    (hM : OwnMetH l Z EL xs y bytes maxL rt [] rm argsL.toArray h Qc) (eT : T.heap = h) (hS : s.Since vm0 k0) (hk : k0 ≤ h.size) (hEL : EW Z a0 EL) (H : CHv Z EL vm0 h) (hsf : ∀ x ∈ xs, x < h.size ∧ Safe Z EL vm0 h x) (hml : Ls.size = c.maxLocals) (hlen : parseMethodDescriptor y.desc = some ⟨ps, r⟩) (hl : argsL.length = ps.length) (hf : rm.frames + 1 ≤ R.frames) (hW : (rest.map fun v => v.category).sum ≤ W) (hlo : W + (maxL + 11) + rm.locals ≤ R.locals) (hc : cells + rm.cells ≤ R.cells) (hs : slots + rm.slots ≤ R.slots)
    (hd : decode bc pc = .ok (.invokestatic index, 3)) (hp : pc + 3 = pc') (hst : st = argsL.reverse ++ rest)
    (kt : ∀ v T' L, Stand p l e R (s.setVm T'.vm) m args below meth c T' (locs ++ L) (cells + rm.cells) (slots + rm.slots) → s.Since T'.vm T'.heap.size → Z.Warmed39 (s.setVm T'.vm).vm → (s.setVm T'.vm).vm.findClass own = some m.cls → CHr Z EL vm0 h T'.vm T'.heap → Qc v T'.heap L → Ends p.tables e below Fz (T'.setTop (mkF m pc' Ls (v.toList ++ rest)))) : Ends p.tables e below Fz (T.setTop (mkF m pc Ls st)) := by
  subst hp hst
  obtain ⟨v, vm₁, ⟨T', L', k', n'⟩, -, X', S', g', ⟨Lc, hQ, l', y', z', hR⟩, st⟩ := callSS X hx (y := y) hown (mvT hZ w1) (mvT hZ w2) (mvT hZ w3) (mvT hZ w4) hy (own_backH (W := W) hM hZ w4 w3 hf hlo hEL H hsf) (g := mkF m pc Ls (argsL.reverse ++ rest)) rfl hml (argsL := argsL) (rest := rest) (lenOf hlen hl) rfl (by show 2 * 0 + _ ≤ _; omega) (hb hby hd) (fun _ _ => ⟨rfl, eT, hc, hs⟩)
  dsimp only [Pt.U, Pt.locs, Pt.cells, Pt.slots] at X' S' g' l' y' z' st hQ hR
  subst l' y' z'
  obtain ⟨X2, S2, Z2, o2⟩ := rebS hS (eT ▸ hk) X' S' g' hZ hown
  exact Ends.tr st (kt v T' Lc X2 S2 Z2 o2 hR hQ)
theorem own_virtualH (X : Stand p l e R (s.setVm vm0) m args below meth c T locs cells slots) (hx : p.tables.exec = Jvm.exec) (hby : c.code = bc) (hZ : Z.Warmed39 (s.setVm vm0).vm) {own Cn : String} {index : Nat} {y : MethodName} {bytes : ByteArray} {maxL : Nat} {rt r : Option FieldType} {ps : List FieldType} {rm : Room} {a : Addr} {argsL rest : List Value} {Qc : Option Value → Heap → List Loc → Prop} {W : Nat}
    (hown : (s.setVm vm0).vm.findClass own = some m.cls) (w1 : (Jvm.Cond.methodLink own index y).before a0 Z = true) (wd : (Jvm.Cond.declares y).before a0 Z = true) (ws : (Jvm.Cond.selects Cn y y).before a0 Z = true) (w2 : (Jvm.Cond.instanceMethod y).before a0 Z = true) (w3 : (Jvm.Cond.initialized y.cls).before a0 Z = true) (w4 : (Jvm.Cond.code y bytes maxL rt).before a0 Z = true) (hy : y.cls ≠ "java/lang/invoke/MethodHandle" ∧ y.cls ≠ "java/lang/invoke/VarHandle")
    (hM : OwnMetH l Z EL xs y bytes maxL rt [] rm (Value.ref a :: argsL).toArray h Qc) (E : Exa Z h a Cn) (eT : T.heap = h) (hS : s.Since vm0 k0) (hk : k0 ≤ h.size) (hEL : EW Z a0 EL) (H : CHv Z EL vm0 h) (hsf : ∀ x ∈ xs, x < h.size ∧ Safe Z EL vm0 h x) (hml : Ls.size = c.maxLocals) (hlen : parseMethodDescriptor y.desc = some ⟨ps, r⟩) (hl : argsL.length = ps.length) (hf : rm.frames + 1 ≤ R.frames) (hW : (rest.map fun v => v.category).sum ≤ W) (hlo : W + (maxL + 11) + rm.locals ≤ R.locals) (hc : cells + rm.cells ≤ R.cells) (hs : slots + rm.slots ≤ R.slots)
    (hd : decode bc pc = .ok (.invokevirtual index, 3)) (hp : pc + 3 = pc') (hst : st = argsL.reverse ++ Value.ref a :: rest)
    (kt : ∀ v T' L, Stand p l e R (s.setVm T'.vm) m args below meth c T' (locs ++ L) (cells + rm.cells) (slots + rm.slots) → s.Since T'.vm T'.heap.size → Z.Warmed39 (s.setVm T'.vm).vm → (s.setVm T'.vm).vm.findClass own = some m.cls → CHr Z EL vm0 h T'.vm T'.heap → Qc v T'.heap L → Ends p.tables e below Fz (T'.setTop (mkF m pc' Ls (v.toList ++ rest)))) : Ends p.tables e below Fz (T.setTop (mkF m pc Ls st)) := by
  subst hp hst
  obtain ⟨cq, kq, qa, qb, qc⟩ := isOf hZ eT E
  obtain ⟨v, vm₁, ⟨T', L', k', n'⟩, -, X', S', g', ⟨Lc, hQ, l', y', z', hR⟩, st⟩ := X.virtualBackS hx (y := y) (z := y) hown (mvT hZ w1) (mvT hZ wd) (notFace_of_selects (args := #[]) (mvT hZ ws)) (mvT hZ ws) (mvT hZ w2) hy (own_backH (W := W) hM hZ w4 w3 hf hlo hEL H hsf) qa qc (g := mkF m pc Ls (argsL.reverse ++ Value.ref a :: rest)) rfl hml (Steps.refl _) (argsL := argsL) (rest := rest) (lenOf hlen hl) rfl (by show 2 * 0 + _ ≤ _; omega) (hb hby hd) (fun _ _ => ⟨rfl, eT, hc, hs⟩)
  dsimp only [Pt.U, Pt.locs, Pt.cells, Pt.slots] at X' S' g' l' y' z' st hQ hR
  subst l' y' z'
  obtain ⟨X2, S2, Z2, o2⟩ := rebS hS (eT ▸ hk) X' S' g' hZ hown
  exact Ends.tr st (kt v T' Lc X2 S2 Z2 o2 hR hQ)
theorem own_Re {vm vm1 : Vm} {h' : Heap} (A : CHr Z EL vm h0 vm1 h) (E : Ext h h') : CHr Z EL vm h0 vm1 h' := A.trans (CHr.ext E A.1)
theorem own_Rk {vm vm1 : Vm} {h' : Heap} (A : CHr Z EL vm h0 vm1 h) (K : Keep h h' xs) (hs : ∀ x ∈ xs, Safe Z EL vm1 h x) : CHr Z EL vm h0 vm1 h' := A.trans (CHr.keep K hs A.1)
theorem own_Rw {vm vm1 : Vm} {h' : Heap} {a : Addr} {i : Nat} {v : Value} (A : CHr Z EL vm h0 vm1 h) (W : Wr h h' a i v) (S : Safe Z EL vm1 h a) : CHr Z EL vm h0 vm1 h' := A.trans (CHr.wr W S A.1)
theorem own_instY (X : Stand p l e R s m args below meth c T locs cells slots) (hx : p.tables.exec = Jvm.exec) (hby : c.code = bc) (hZ : Z.Warmed39 s.vm) {own K : String} {index : Nat} {a : Addr} (hown : s.vm.findClass own = some m.cls) (w : (Jvm.Cond.classLink own index K).before a0 Z = true) (eT : T.heap = h) (F : Ins Z h a K true) (hd : decode bc pc = .ok (.instanceof index, 3)) (hp : pc + 3 = pc')
    (kt : ∀ T', Stand p l e R s m args below meth c T' locs cells slots → T'.heap = h → Ends p.tables e below Fz (T'.setTop (mkF m pc' Ls (.int 1 :: st)))) : Ends p.tables e below Fz (T.setTop (mkF m pc Ls (.ref a :: st))) := by
  subst hp
  obtain ⟨T', X', e', st⟩ := instY X hx hZ hown w eT F (g := mkF m pc Ls (.ref a :: st)) rfl rfl (hb hby hd)
  exact Ends.of st (kt T' X' e')
end OwnHH

theorem own_satoms {Z : State} {a0 : Array Value} (hw : ∀ d ∈ tables_1, d.before a0 Z = true) : ∀ d ∈ Bundle.stringAtoms, d.before a0 Z = true := fun d hd => hw d ((by decide +kernel : ∀ d ∈ Bundle.stringAtoms, d ∈ tables_1) d hd)
theorem own_narb (x : Int32) : nar .byte x.toInt8.toInt32 = x.toInt8.toInt32 := Value.int.inj (Jvm.Free.XT.narrow_b x)
theorem own_mask (x : Int32) : (x &&& (255 : Int32)).toInt ≤ 255 := by have k1 := c_mask x (255 : Int32) 8 (by decide) (by decide); omega
theorem own_mc (x : Int32) : ((x &&& (255 : Int32)).toUInt32.toUInt16.toUInt32.toInt32).toInt ≤ 255 := by rw [i2c_mask]; exact own_mask x
theorem own_nc (x : Int32) : nar .char ((x &&& (255 : Int32)).toUInt32.toUInt16.toUInt32.toInt32) = (x &&& (255 : Int32)).toUInt32.toUInt16.toUInt32.toInt32 := Value.int.inj (Jvm.Free.XT.narrow_c (x &&& (255 : Int32)))
theorem own_fc (x : Int32) : fits .char (.int ((x &&& (255 : Int32)).toUInt32.toUInt16.toUInt32.toInt32)) = true := fits_nar_char (x &&& (255 : Int32))
theorem own_n4 (x : Int32) : (x &&& (3 : Int32)) = 0 ∨ (x &&& (3 : Int32)) = 1 ∨ (x &&& (3 : Int32)) = 2 ∨ (x &&& (3 : Int32)) = 3 := by
  have k1 := c_mask x (3 : Int32) 2 (by decide) (by decide)
  have h : (x &&& (3 : Int32)).toInt = 0 ∨ (x &&& (3 : Int32)).toInt = 1 ∨ (x &&& (3 : Int32)).toInt = 2 ∨ (x &&& (3 : Int32)).toInt = 3 := by omega
  rcases h with h | h | h | h
  · exact Or.inl (Int32.toInt_inj.mp h)
  · exact Or.inr (Or.inl (Int32.toInt_inj.mp h))
  · exact Or.inr (Or.inr (Or.inl (Int32.toInt_inj.mp h)))
  · exact Or.inr (Or.inr (Or.inr (Int32.toInt_inj.mp h)))

theorem tw_0 : (Jvm.Cond.methodLink "com/example/portunus/portunus/io/InvalidationDirectoryOfPinLaw" (7 : Nat) ({ cls := "com/example/portunus/portunus/io/InvalidationDirectoryOfPinLaw", name := "plain", desc := "(ICCC)Ljava/lang/String;" } : Jvm.MethodName)) ∈ tables_1 := List.mem_of_getElem? (i := 0) rfl
theorem tw_1 : (Jvm.Cond.static ({ cls := "com/example/portunus/portunus/io/InvalidationDirectoryOfPinLaw", name := "plain", desc := "(ICCC)Ljava/lang/String;" } : Jvm.MethodName)) ∈ tables_1 := List.mem_of_getElem? (i := 1) rfl
theorem tw_2 : (Jvm.Cond.initialized "com/example/portunus/portunus/io/InvalidationDirectoryOfPinLaw") ∈ tables_1 := List.mem_of_getElem? (i := 2) rfl
theorem tw_3 : (Jvm.Cond.code ({ cls := "com/example/portunus/portunus/io/InvalidationDirectoryOfPinLaw", name := "plain", desc := "(ICCC)Ljava/lang/String;" } : Jvm.MethodName) method_3_code (4 : Nat) (Option.some (Jvm.ClassFile.FieldType.object "java/lang/String"))) ∈ tables_1 := List.mem_of_getElem? (i := 3) rfl
theorem tw_4 : (Jvm.Cond.classLink "com/example/portunus/portunus/io/InvalidationDirectoryOfPinLaw" (23 : Nat) "java/lang/String") ∈ tables_1 := List.mem_of_getElem? (i := 4) rfl
theorem tw_5 : (Jvm.Cond.instantiable "java/lang/String" (4 : Nat)) ∈ tables_1 := List.mem_of_getElem? (i := 5) rfl
theorem tw_6 : (Jvm.Cond.initialized "java/lang/String") ∈ tables_1 := List.mem_of_getElem? (i := 6) rfl
theorem tw_7 : (Jvm.Cond.arrayClass Jvm.ClassFile.FieldType.char) ∈ tables_1 := List.mem_of_getElem? (i := 7) rfl
theorem tw_8 : (Jvm.Cond.methodLink "com/example/portunus/portunus/io/InvalidationDirectoryOfPinLaw" (28 : Nat) ({ cls := "java/lang/String", name := "<init>", desc := "([C)V" } : Jvm.MethodName)) ∈ tables_1 := List.mem_of_getElem? (i := 8) rfl
theorem tw_9 : (Jvm.Cond.instanceMethod ({ cls := "java/lang/String", name := "<init>", desc := "([C)V" } : Jvm.MethodName)) ∈ tables_1 := List.mem_of_getElem? (i := 9) rfl
theorem tw_10 : (Jvm.Cond.code ({ cls := "java/lang/String", name := "<init>", desc := "([C)V" } : Jvm.MethodName) jdk_42_method_3_code (2 : Nat) (Option.none : Option Jvm.ClassFile.FieldType)) ∈ tables_1 := List.mem_of_getElem? (i := 10) rfl
theorem tw_11 : (Jvm.Cond.methodLink "java/lang/String" (27 : Nat) ({ cls := "java/lang/String", name := "<init>", desc := "([CIILjava/lang/Void;)V" } : Jvm.MethodName)) ∈ tables_1 := List.mem_of_getElem? (i := 11) rfl
theorem tw_12 : (Jvm.Cond.instanceMethod ({ cls := "java/lang/String", name := "<init>", desc := "([CIILjava/lang/Void;)V" } : Jvm.MethodName)) ∈ tables_1 := List.mem_of_getElem? (i := 12) rfl
theorem tw_14 : (Jvm.Cond.code ({ cls := "java/lang/String", name := "<init>", desc := "([CIILjava/lang/Void;)V" } : Jvm.MethodName) jdk_42_method_149_code (6 : Nat) (Option.none : Option Jvm.ClassFile.FieldType)) ∈ tables_1 := List.mem_of_getElem? (i := 14) rfl
theorem tw_15 : (Jvm.Cond.methodLink "java/lang/String" (1 : Nat) ({ cls := "java/lang/Object", name := "<init>", desc := "()V" } : Jvm.MethodName)) ∈ tables_1 := List.mem_of_getElem? (i := 15) rfl
theorem tw_16 : (Jvm.Cond.instanceMethod ({ cls := "java/lang/Object", name := "<init>", desc := "()V" } : Jvm.MethodName)) ∈ tables_1 := List.mem_of_getElem? (i := 16) rfl
theorem tw_17 : (Jvm.Cond.code ({ cls := "java/lang/Object", name := "<init>", desc := "()V" } : Jvm.MethodName) object_method_1_code (1 : Nat) (Option.none : Option Jvm.ClassFile.FieldType)) ∈ tables_1 := List.mem_of_getElem? (i := 17) rfl
theorem tw_18 : (Jvm.Cond.stringLink "java/lang/String" (7 : Nat) "") ∈ tables_1 := List.mem_of_getElem? (i := 18) rfl
theorem tw_19 : (Jvm.Cond.arrayClass Jvm.ClassFile.FieldType.byte) ∈ tables_1 := List.mem_of_getElem? (i := 19) rfl
theorem tw_20 : (Jvm.Cond.laysFinal "java/lang/String" "java/lang/String" "value" "[B") ∈ tables_1 := List.mem_of_getElem? (i := 20) rfl
theorem tw_21 : (Jvm.Cond.laysFinal "java/lang/String" "java/lang/String" "coder" "B") ∈ tables_1 := List.mem_of_getElem? (i := 21) rfl
theorem tw_24 : (Jvm.Cond.fieldLink "java/lang/String" (9 : Nat) "java/lang/String" "value" "[B") ∈ tables_1 := List.mem_of_getElem? (i := 24) rfl
theorem tw_25 : (Jvm.Cond.fieldLink "java/lang/String" (15 : Nat) "java/lang/String" "coder" "B") ∈ tables_1 := List.mem_of_getElem? (i := 25) rfl
theorem tw_26 : (Jvm.Cond.methodLink "com/example/portunus/portunus/io/InvalidationDirectoryOfPinLaw" (13 : Nat) ({ cls := "com/example/portunus/portunus/io/InvalidationDirectoryOfPinLaw", name := "withSlash", desc := "(ICCC)Ljava/lang/String;" } : Jvm.MethodName)) ∈ tables_1 := List.mem_of_getElem? (i := 26) rfl
theorem tw_27 : (Jvm.Cond.static ({ cls := "com/example/portunus/portunus/io/InvalidationDirectoryOfPinLaw", name := "withSlash", desc := "(ICCC)Ljava/lang/String;" } : Jvm.MethodName)) ∈ tables_1 := List.mem_of_getElem? (i := 27) rfl
theorem tw_28 : (Jvm.Cond.code ({ cls := "com/example/portunus/portunus/io/InvalidationDirectoryOfPinLaw", name := "withSlash", desc := "(ICCC)Ljava/lang/String;" } : Jvm.MethodName) method_4_code (4 : Nat) (Option.some (Jvm.ClassFile.FieldType.object "java/lang/String"))) ∈ tables_1 := List.mem_of_getElem? (i := 28) rfl
theorem tw_29 : (Jvm.Cond.fieldLink "java/lang/String" (38 : Nat) "java/lang/String" "COMPACT_STRINGS" "Z") ∈ tables_1 := List.mem_of_getElem? (i := 29) rfl
theorem tw_30 : (Jvm.Cond.methodLink "java/lang/String" (177 : Nat) ({ cls := "java/lang/StringUTF16", name := "compress", desc := "([CII)[B" } : Jvm.MethodName)) ∈ tables_1 := List.mem_of_getElem? (i := 30) rfl
theorem tw_31 : (Jvm.Cond.static ({ cls := "java/lang/StringUTF16", name := "compress", desc := "([CII)[B" } : Jvm.MethodName)) ∈ tables_1 := List.mem_of_getElem? (i := 31) rfl
theorem tw_32 : (Jvm.Cond.initialized "java/lang/StringUTF16") ∈ tables_1 := List.mem_of_getElem? (i := 32) rfl
theorem tw_33 : (Jvm.Cond.code ({ cls := "java/lang/StringUTF16", name := "compress", desc := "([CII)[B" } : Jvm.MethodName) jdk_52_method_16_code (6 : Nat) (Option.some (Jvm.ClassFile.FieldType.array Jvm.ClassFile.FieldType.byte))) ∈ tables_1 := List.mem_of_getElem? (i := 33) rfl
theorem tw_34 : (Jvm.Cond.methodLink "java/lang/StringUTF16" (115 : Nat) ({ cls := "java/lang/StringUTF16", name := "compress", desc := "([CI[BII)I" } : Jvm.MethodName)) ∈ tables_1 := List.mem_of_getElem? (i := 34) rfl
theorem tw_35 : (Jvm.Cond.static ({ cls := "java/lang/StringUTF16", name := "compress", desc := "([CI[BII)I" } : Jvm.MethodName)) ∈ tables_1 := List.mem_of_getElem? (i := 35) rfl
theorem tw_36 : (Jvm.Cond.code ({ cls := "java/lang/StringUTF16", name := "compress", desc := "([CI[BII)I" } : Jvm.MethodName) jdk_52_method_21_code (7 : Nat) (Option.some Jvm.ClassFile.FieldType.int)) ∈ tables_1 := List.mem_of_getElem? (i := 36) rfl
theorem tw_37 : (Jvm.Cond.methodLink "java/lang/String" (47 : Nat) ({ cls := "java/lang/StringUTF16", name := "coderFromArrayLen", desc := "([BI)B" } : Jvm.MethodName)) ∈ tables_1 := List.mem_of_getElem? (i := 37) rfl
theorem tw_38 : (Jvm.Cond.static ({ cls := "java/lang/StringUTF16", name := "coderFromArrayLen", desc := "([BI)B" } : Jvm.MethodName)) ∈ tables_1 := List.mem_of_getElem? (i := 38) rfl
theorem tw_39 : (Jvm.Cond.code ({ cls := "java/lang/StringUTF16", name := "coderFromArrayLen", desc := "([BI)B" } : Jvm.MethodName) jdk_52_method_15_code (2 : Nat) (Option.some Jvm.ClassFile.FieldType.byte)) ∈ tables_1 := List.mem_of_getElem? (i := 39) rfl
theorem tw_40 : (Jvm.Cond.methodLink "com/example/portunus/portunus/io/InvalidationDirectoryOfPinLaw" (16 : Nat) ({ cls := "com/example/portunus/portunus/io/Invalidation", name := "directoryOf", desc := "(Ljava/lang/String;)Ljava/lang/String;" } : Jvm.MethodName)) ∈ tables_1 := List.mem_of_getElem? (i := 40) rfl
theorem tw_41 : (Jvm.Cond.static ({ cls := "com/example/portunus/portunus/io/Invalidation", name := "directoryOf", desc := "(Ljava/lang/String;)Ljava/lang/String;" } : Jvm.MethodName)) ∈ tables_1 := List.mem_of_getElem? (i := 41) rfl
theorem tw_42 : (Jvm.Cond.initialized "com/example/portunus/portunus/io/Invalidation") ∈ tables_1 := List.mem_of_getElem? (i := 42) rfl
theorem tw_43 : (Jvm.Cond.code ({ cls := "com/example/portunus/portunus/io/Invalidation", name := "directoryOf", desc := "(Ljava/lang/String;)Ljava/lang/String;" } : Jvm.MethodName) prog_40_method_4_code (1 : Nat) (Option.some (Jvm.ClassFile.FieldType.object "java/lang/String"))) ∈ tables_1 := List.mem_of_getElem? (i := 43) rfl
theorem tw_44 : (Jvm.Cond.methodLink "com/example/portunus/portunus/io/Invalidation" (29 : Nat) ({ cls := "java/lang/String", name := "length", desc := "()I" } : Jvm.MethodName)) ∈ tables_1 := List.mem_of_getElem? (i := 44) rfl
theorem tw_45 : (Jvm.Cond.declares ({ cls := "java/lang/String", name := "length", desc := "()I" } : Jvm.MethodName)) ∈ tables_1 := List.mem_of_getElem? (i := 45) rfl
theorem tw_46 : (Jvm.Cond.instanceMethod ({ cls := "java/lang/String", name := "length", desc := "()I" } : Jvm.MethodName)) ∈ tables_1 := List.mem_of_getElem? (i := 46) rfl
theorem tw_47 : (Jvm.Cond.selects "java/lang/String" ({ cls := "java/lang/String", name := "length", desc := "()I" } : Jvm.MethodName) ({ cls := "java/lang/String", name := "length", desc := "()I" } : Jvm.MethodName)) ∈ tables_1 := List.mem_of_getElem? (i := 47) rfl
theorem tw_48 : (Jvm.Cond.code ({ cls := "java/lang/String", name := "length", desc := "()I" } : Jvm.MethodName) jdk_42_method_54_code (1 : Nat) (Option.some Jvm.ClassFile.FieldType.int)) ∈ tables_1 := List.mem_of_getElem? (i := 48) rfl
theorem tw_49 : (Jvm.Cond.methodLink "java/lang/String" (335 : Nat) ({ cls := "java/lang/String", name := "coder", desc := "()B" } : Jvm.MethodName)) ∈ tables_1 := List.mem_of_getElem? (i := 49) rfl
theorem tw_50 : (Jvm.Cond.declares ({ cls := "java/lang/String", name := "coder", desc := "()B" } : Jvm.MethodName)) ∈ tables_1 := List.mem_of_getElem? (i := 50) rfl
theorem tw_51 : (Jvm.Cond.instanceMethod ({ cls := "java/lang/String", name := "coder", desc := "()B" } : Jvm.MethodName)) ∈ tables_1 := List.mem_of_getElem? (i := 51) rfl
theorem tw_52 : (Jvm.Cond.selects "java/lang/String" ({ cls := "java/lang/String", name := "coder", desc := "()B" } : Jvm.MethodName) ({ cls := "java/lang/String", name := "coder", desc := "()B" } : Jvm.MethodName)) ∈ tables_1 := List.mem_of_getElem? (i := 52) rfl
theorem tw_53 : (Jvm.Cond.code ({ cls := "java/lang/String", name := "coder", desc := "()B" } : Jvm.MethodName) jdk_42_method_152_code (1 : Nat) (Option.some Jvm.ClassFile.FieldType.byte)) ∈ tables_1 := List.mem_of_getElem? (i := 53) rfl
theorem tw_54 : (Jvm.Cond.stringLink "com/example/portunus/portunus/io/Invalidation" (21 : Nat) "/") ∈ tables_1 := List.mem_of_getElem? (i := 54) rfl
theorem tw_55 : (Jvm.Cond.methodLink "com/example/portunus/portunus/io/Invalidation" (33 : Nat) ({ cls := "java/lang/String", name := "substring", desc := "(II)Ljava/lang/String;" } : Jvm.MethodName)) ∈ tables_1 := List.mem_of_getElem? (i := 55) rfl
theorem tw_56 : (Jvm.Cond.declares ({ cls := "java/lang/String", name := "substring", desc := "(II)Ljava/lang/String;" } : Jvm.MethodName)) ∈ tables_1 := List.mem_of_getElem? (i := 56) rfl
theorem tw_57 : (Jvm.Cond.instanceMethod ({ cls := "java/lang/String", name := "substring", desc := "(II)Ljava/lang/String;" } : Jvm.MethodName)) ∈ tables_1 := List.mem_of_getElem? (i := 57) rfl
theorem tw_58 : (Jvm.Cond.selects "java/lang/String" ({ cls := "java/lang/String", name := "substring", desc := "(II)Ljava/lang/String;" } : Jvm.MethodName) ({ cls := "java/lang/String", name := "substring", desc := "(II)Ljava/lang/String;" } : Jvm.MethodName)) ∈ tables_1 := List.mem_of_getElem? (i := 58) rfl
theorem tw_59 : (Jvm.Cond.code ({ cls := "java/lang/String", name := "substring", desc := "(II)Ljava/lang/String;" } : Jvm.MethodName) jdk_42_method_92_code (5 : Nat) (Option.some (Jvm.ClassFile.FieldType.object "java/lang/String"))) ∈ tables_1 := List.mem_of_getElem? (i := 59) rfl
theorem tw_60 : (Jvm.Cond.methodLink "java/lang/String" (505 : Nat) ({ cls := "java/lang/String", name := "length", desc := "()I" } : Jvm.MethodName)) ∈ tables_1 := List.mem_of_getElem? (i := 60) rfl
theorem tw_61 : (Jvm.Cond.methodLink "java/lang/String" (521 : Nat) ({ cls := "java/lang/String", name := "checkBoundsBeginEnd", desc := "(III)V" } : Jvm.MethodName)) ∈ tables_1 := List.mem_of_getElem? (i := 61) rfl
theorem tw_62 : (Jvm.Cond.static ({ cls := "java/lang/String", name := "checkBoundsBeginEnd", desc := "(III)V" } : Jvm.MethodName)) ∈ tables_1 := List.mem_of_getElem? (i := 62) rfl
theorem tw_63 : (Jvm.Cond.code ({ cls := "java/lang/String", name := "checkBoundsBeginEnd", desc := "(III)V" } : Jvm.MethodName) jdk_42_method_158_code (3 : Nat) (Option.none : Option Jvm.ClassFile.FieldType)) ∈ tables_1 := List.mem_of_getElem? (i := 63) rfl
theorem tw_64 : (Jvm.Cond.fieldLink "java/lang/String" (1053 : Nat) "jdk/internal/util/Preconditions" "SIOOBE_FORMATTER" "Ljava/util/function/BiFunction;") ∈ tables_1 := List.mem_of_getElem? (i := 64) rfl
theorem tw_65 : (Jvm.Cond.initialized "jdk/internal/util/Preconditions") ∈ tables_1 := List.mem_of_getElem? (i := 65) rfl
theorem tw_66 : (Jvm.Cond.methodLink "java/lang/String" (1062 : Nat) ({ cls := "jdk/internal/util/Preconditions", name := "checkFromToIndex", desc := "(IIILjava/util/function/BiFunction;)I" } : Jvm.MethodName)) ∈ tables_1 := List.mem_of_getElem? (i := 66) rfl
theorem tw_67 : (Jvm.Cond.static ({ cls := "jdk/internal/util/Preconditions", name := "checkFromToIndex", desc := "(IIILjava/util/function/BiFunction;)I" } : Jvm.MethodName)) ∈ tables_1 := List.mem_of_getElem? (i := 67) rfl
theorem tw_68 : (Jvm.Cond.code ({ cls := "jdk/internal/util/Preconditions", name := "checkFromToIndex", desc := "(IIILjava/util/function/BiFunction;)I" } : Jvm.MethodName) jdk_41_method_12_code (4 : Nat) (Option.some Jvm.ClassFile.FieldType.int)) ∈ tables_1 := List.mem_of_getElem? (i := 68) rfl
theorem tw_69 : (Jvm.Cond.methodLink "java/lang/String" (492 : Nat) ({ cls := "java/lang/String", name := "isLatin1", desc := "()Z" } : Jvm.MethodName)) ∈ tables_1 := List.mem_of_getElem? (i := 69) rfl
theorem tw_70 : (Jvm.Cond.declares ({ cls := "java/lang/String", name := "isLatin1", desc := "()Z" } : Jvm.MethodName)) ∈ tables_1 := List.mem_of_getElem? (i := 70) rfl
theorem tw_71 : (Jvm.Cond.instanceMethod ({ cls := "java/lang/String", name := "isLatin1", desc := "()Z" } : Jvm.MethodName)) ∈ tables_1 := List.mem_of_getElem? (i := 71) rfl
theorem tw_72 : (Jvm.Cond.selects "java/lang/String" ({ cls := "java/lang/String", name := "isLatin1", desc := "()Z" } : Jvm.MethodName) ({ cls := "java/lang/String", name := "isLatin1", desc := "()Z" } : Jvm.MethodName)) ∈ tables_1 := List.mem_of_getElem? (i := 72) rfl
theorem tw_73 : (Jvm.Cond.code ({ cls := "java/lang/String", name := "isLatin1", desc := "()Z" } : Jvm.MethodName) jdk_42_method_154_code (1 : Nat) (Option.some Jvm.ClassFile.FieldType.boolean)) ∈ tables_1 := List.mem_of_getElem? (i := 73) rfl
theorem tw_74 : (Jvm.Cond.methodLink "java/lang/String" (685 : Nat) ({ cls := "java/lang/StringLatin1", name := "newString", desc := "([BII)Ljava/lang/String;" } : Jvm.MethodName)) ∈ tables_1 := List.mem_of_getElem? (i := 74) rfl
theorem tw_75 : (Jvm.Cond.static ({ cls := "java/lang/StringLatin1", name := "newString", desc := "([BII)Ljava/lang/String;" } : Jvm.MethodName)) ∈ tables_1 := List.mem_of_getElem? (i := 75) rfl
theorem tw_76 : (Jvm.Cond.initialized "java/lang/StringLatin1") ∈ tables_1 := List.mem_of_getElem? (i := 76) rfl
theorem tw_77 : (Jvm.Cond.code ({ cls := "java/lang/StringLatin1", name := "newString", desc := "([BII)Ljava/lang/String;" } : Jvm.MethodName) jdk_43_method_47_code (3 : Nat) (Option.some (Jvm.ClassFile.FieldType.object "java/lang/String"))) ∈ tables_1 := List.mem_of_getElem? (i := 77) rfl
theorem tw_78 : (Jvm.Cond.stringLink "java/lang/StringLatin1" (151 : Nat) "") ∈ tables_1 := List.mem_of_getElem? (i := 78) rfl
theorem tw_79 : (Jvm.Cond.methodLink "com/example/portunus/portunus/io/InvalidationDirectoryOfPinLaw" (22 : Nat) ({ cls := "java/lang/String", name := "equals", desc := "(Ljava/lang/Object;)Z" } : Jvm.MethodName)) ∈ tables_1 := List.mem_of_getElem? (i := 79) rfl
theorem tw_80 : (Jvm.Cond.declares ({ cls := "java/lang/String", name := "equals", desc := "(Ljava/lang/Object;)Z" } : Jvm.MethodName)) ∈ tables_1 := List.mem_of_getElem? (i := 80) rfl
theorem tw_81 : (Jvm.Cond.instanceMethod ({ cls := "java/lang/String", name := "equals", desc := "(Ljava/lang/Object;)Z" } : Jvm.MethodName)) ∈ tables_1 := List.mem_of_getElem? (i := 81) rfl
theorem tw_82 : (Jvm.Cond.selects "java/lang/String" ({ cls := "java/lang/String", name := "equals", desc := "(Ljava/lang/Object;)Z" } : Jvm.MethodName) ({ cls := "java/lang/String", name := "equals", desc := "(Ljava/lang/Object;)Z" } : Jvm.MethodName)) ∈ tables_1 := List.mem_of_getElem? (i := 82) rfl
theorem tw_83 : (Jvm.Cond.code ({ cls := "java/lang/String", name := "equals", desc := "(Ljava/lang/Object;)Z" } : Jvm.MethodName) jdk_42_method_66_code (3 : Nat) (Option.some Jvm.ClassFile.FieldType.boolean)) ∈ tables_1 := List.mem_of_getElem? (i := 83) rfl
theorem tw_84 : (Jvm.Cond.classLink "java/lang/String" (10 : Nat) "java/lang/String") ∈ tables_1 := List.mem_of_getElem? (i := 84) rfl
theorem tw_85 : (Jvm.Cond.methodLink "java/lang/String" (541 : Nat) ({ cls := "java/lang/StringLatin1", name := "equals", desc := "([B[B)Z" } : Jvm.MethodName)) ∈ tables_1 := List.mem_of_getElem? (i := 85) rfl
theorem tw_86 : (Jvm.Cond.static ({ cls := "java/lang/StringLatin1", name := "equals", desc := "([B[B)Z" } : Jvm.MethodName)) ∈ tables_1 := List.mem_of_getElem? (i := 86) rfl
theorem tw_87 : (Jvm.Cond.code ({ cls := "java/lang/StringLatin1", name := "equals", desc := "([B[B)Z" } : Jvm.MethodName) jdk_43_method_13_code (3 : Nat) (Option.some Jvm.ClassFile.FieldType.boolean)) ∈ tables_1 := List.mem_of_getElem? (i := 87) rfl
theorem tw_88 : (Jvm.Cond.classLink "java/lang/StringLatin1" (1 : Nat) "java/lang/String") ∈ tables_1 := List.mem_of_getElem? (i := 88) rfl
theorem tw_89 : (Jvm.Cond.methodLink "java/lang/StringLatin1" (232 : Nat) ({ cls := "java/util/Arrays", name := "copyOfRange", desc := "([BII)[B" } : Jvm.MethodName)) ∈ tables_1 := List.mem_of_getElem? (i := 89) rfl
theorem tw_90 : (Jvm.Cond.static ({ cls := "java/util/Arrays", name := "copyOfRange", desc := "([BII)[B" } : Jvm.MethodName)) ∈ tables_1 := List.mem_of_getElem? (i := 90) rfl
theorem tw_91 : (Jvm.Cond.initialized "java/util/Arrays") ∈ tables_1 := List.mem_of_getElem? (i := 91) rfl
theorem tw_92 : (Jvm.Cond.code ({ cls := "java/util/Arrays", name := "copyOfRange", desc := "([BII)[B" } : Jvm.MethodName) jdk_65_method_132_code (3 : Nat) (Option.some (Jvm.ClassFile.FieldType.array Jvm.ClassFile.FieldType.byte))) ∈ tables_1 := List.mem_of_getElem? (i := 92) rfl
theorem tw_93 : (Jvm.Cond.methodLink "java/util/Arrays" (339 : Nat) ({ cls := "java/util/Arrays", name := "copyOfRangeByte", desc := "([BII)[B" } : Jvm.MethodName)) ∈ tables_1 := List.mem_of_getElem? (i := 93) rfl
theorem tw_94 : (Jvm.Cond.static ({ cls := "java/util/Arrays", name := "copyOfRangeByte", desc := "([BII)[B" } : Jvm.MethodName)) ∈ tables_1 := List.mem_of_getElem? (i := 94) rfl
theorem tw_95 : (Jvm.Cond.code ({ cls := "java/util/Arrays", name := "copyOfRangeByte", desc := "([BII)[B" } : Jvm.MethodName) jdk_65_method_133_code (5 : Nat) (Option.some (Jvm.ClassFile.FieldType.array Jvm.ClassFile.FieldType.byte))) ∈ tables_1 := List.mem_of_getElem? (i := 95) rfl
theorem tw_96 : (Jvm.Cond.methodLink "java/util/Arrays" (343 : Nat) ({ cls := "java/util/Arrays", name := "checkLength", desc := "(II)V" } : Jvm.MethodName)) ∈ tables_1 := List.mem_of_getElem? (i := 96) rfl
theorem tw_97 : (Jvm.Cond.static ({ cls := "java/util/Arrays", name := "checkLength", desc := "(II)V" } : Jvm.MethodName)) ∈ tables_1 := List.mem_of_getElem? (i := 97) rfl
theorem tw_98 : (Jvm.Cond.code ({ cls := "java/util/Arrays", name := "checkLength", desc := "(II)V" } : Jvm.MethodName) jdk_65_method_131_code (2 : Nat) (Option.none : Option Jvm.ClassFile.FieldType)) ∈ tables_1 := List.mem_of_getElem? (i := 98) rfl
theorem tw_99 : (Jvm.Cond.methodLink "java/util/Arrays" (304 : Nat) ({ cls := "java/lang/Math", name := "min", desc := "(II)I" } : Jvm.MethodName)) ∈ tables_1 := List.mem_of_getElem? (i := 99) rfl
theorem tw_100 : (Jvm.Cond.static ({ cls := "java/lang/Math", name := "min", desc := "(II)I" } : Jvm.MethodName)) ∈ tables_1 := List.mem_of_getElem? (i := 100) rfl
theorem tw_101 : (Jvm.Cond.initialized "java/lang/Math") ∈ tables_1 := List.mem_of_getElem? (i := 101) rfl
theorem tw_102 : (Jvm.Cond.code ({ cls := "java/lang/Math", name := "min", desc := "(II)I" } : Jvm.MethodName) jdk_29_method_69_code (2 : Nat) (Option.some Jvm.ClassFile.FieldType.int)) ∈ tables_1 := List.mem_of_getElem? (i := 102) rfl
theorem tw_103 : (Jvm.Cond.methodLink "java/util/Arrays" (150 : Nat) ({ cls := "java/lang/System", name := "arraycopy", desc := "(Ljava/lang/Object;ILjava/lang/Object;II)V" } : Jvm.MethodName)) ∈ tables_1 := List.mem_of_getElem? (i := 103) rfl
theorem tw_104 : (Jvm.Cond.static ({ cls := "java/lang/System", name := "arraycopy", desc := "(Ljava/lang/Object;ILjava/lang/Object;II)V" } : Jvm.MethodName)) ∈ tables_1 := List.mem_of_getElem? (i := 104) rfl
theorem tw_105 : (Jvm.Cond.initialized "java/lang/System") ∈ tables_1 := List.mem_of_getElem? (i := 105) rfl
theorem tw_106 : (Jvm.Cond.native ({ cls := "java/lang/System", name := "arraycopy", desc := "(Ljava/lang/Object;ILjava/lang/Object;II)V" } : Jvm.MethodName)) ∈ tables_1 := List.mem_of_getElem? (i := 106) rfl
theorem tw_107 : (Jvm.Cond.methodLink "java/lang/StringLatin1" (112 : Nat) ({ cls := "java/lang/String", name := "<init>", desc := "([BB)V" } : Jvm.MethodName)) ∈ tables_1 := List.mem_of_getElem? (i := 107) rfl
theorem tw_108 : (Jvm.Cond.instanceMethod ({ cls := "java/lang/String", name := "<init>", desc := "([BB)V" } : Jvm.MethodName)) ∈ tables_1 := List.mem_of_getElem? (i := 108) rfl
theorem tw_109 : (Jvm.Cond.code ({ cls := "java/lang/String", name := "<init>", desc := "([BB)V" } : Jvm.MethodName) jdk_42_method_151_code (3 : Nat) (Option.none : Option Jvm.ClassFile.FieldType)) ∈ tables_1 := List.mem_of_getElem? (i := 109) rfl
theorem d1_0 : decode method_3_code 0 = .ok (.iload_n 0, 1) := by decide +kernel
theorem d1_1 : decode method_3_code 1 = .ok (.ifCond .ne 14, 3) := by decide +kernel
theorem d1_4 : decode method_3_code 4 = .ok (.new 23, 3) := by decide +kernel
theorem d1_7 : decode method_3_code 7 = .ok (.dup, 1) := by decide +kernel
theorem d1_8 : decode method_3_code 8 = .ok (.iconst 0, 1) := by decide +kernel
theorem d1_9 : decode method_3_code 9 = .ok (.newarray .char, 2) := by decide +kernel
theorem d1_11 : decode method_3_code 11 = .ok (.invokespecial 28, 3) := by decide +kernel
theorem d1_14 : decode method_3_code 14 = .ok (.areturn, 1) := by decide +kernel
theorem d1_15 : decode method_3_code 15 = .ok (.iload_n 0, 1) := by decide +kernel
theorem d1_16 : decode method_3_code 16 = .ok (.iconst 1, 1) := by decide +kernel
theorem d1_17 : decode method_3_code 17 = .ok (.if_icmp .ne 18, 3) := by decide +kernel
theorem d1_20 : decode method_3_code 20 = .ok (.new 23, 3) := by decide +kernel
theorem d1_23 : decode method_3_code 23 = .ok (.dup, 1) := by decide +kernel
theorem d1_24 : decode method_3_code 24 = .ok (.iconst 1, 1) := by decide +kernel
theorem d1_25 : decode method_3_code 25 = .ok (.newarray .char, 2) := by decide +kernel
theorem d1_27 : decode method_3_code 27 = .ok (.dup, 1) := by decide +kernel
theorem d1_28 : decode method_3_code 28 = .ok (.iconst 0, 1) := by decide +kernel
theorem d1_29 : decode method_3_code 29 = .ok (.iload_n 1, 1) := by decide +kernel
theorem d1_30 : decode method_3_code 30 = .ok (.castore, 1) := by decide +kernel
theorem d1_31 : decode method_3_code 31 = .ok (.invokespecial 28, 3) := by decide +kernel
theorem d1_34 : decode method_3_code 34 = .ok (.areturn, 1) := by decide +kernel
theorem d1_35 : decode method_3_code 35 = .ok (.iload_n 0, 1) := by decide +kernel
theorem d1_36 : decode method_3_code 36 = .ok (.iconst 2, 1) := by decide +kernel
theorem d1_37 : decode method_3_code 37 = .ok (.if_icmp .ne 22, 3) := by decide +kernel
theorem d1_40 : decode method_3_code 40 = .ok (.new 23, 3) := by decide +kernel
theorem d1_43 : decode method_3_code 43 = .ok (.dup, 1) := by decide +kernel
theorem d1_44 : decode method_3_code 44 = .ok (.iconst 2, 1) := by decide +kernel
theorem d1_45 : decode method_3_code 45 = .ok (.newarray .char, 2) := by decide +kernel
theorem d1_47 : decode method_3_code 47 = .ok (.dup, 1) := by decide +kernel
theorem d1_48 : decode method_3_code 48 = .ok (.iconst 0, 1) := by decide +kernel
theorem d1_49 : decode method_3_code 49 = .ok (.iload_n 1, 1) := by decide +kernel
theorem d1_50 : decode method_3_code 50 = .ok (.castore, 1) := by decide +kernel
theorem d1_51 : decode method_3_code 51 = .ok (.dup, 1) := by decide +kernel
theorem d1_52 : decode method_3_code 52 = .ok (.iconst 1, 1) := by decide +kernel
theorem d1_53 : decode method_3_code 53 = .ok (.iload_n 2, 1) := by decide +kernel
theorem d1_54 : decode method_3_code 54 = .ok (.castore, 1) := by decide +kernel
theorem d1_55 : decode method_3_code 55 = .ok (.invokespecial 28, 3) := by decide +kernel
theorem d1_58 : decode method_3_code 58 = .ok (.areturn, 1) := by decide +kernel
theorem d1_59 : decode method_3_code 59 = .ok (.new 23, 3) := by decide +kernel
theorem d1_62 : decode method_3_code 62 = .ok (.dup, 1) := by decide +kernel
theorem d1_63 : decode method_3_code 63 = .ok (.iconst 3, 1) := by decide +kernel
theorem d1_64 : decode method_3_code 64 = .ok (.newarray .char, 2) := by decide +kernel
theorem d1_66 : decode method_3_code 66 = .ok (.dup, 1) := by decide +kernel
theorem d1_67 : decode method_3_code 67 = .ok (.iconst 0, 1) := by decide +kernel
theorem d1_68 : decode method_3_code 68 = .ok (.iload_n 1, 1) := by decide +kernel
theorem d1_69 : decode method_3_code 69 = .ok (.castore, 1) := by decide +kernel
theorem d1_70 : decode method_3_code 70 = .ok (.dup, 1) := by decide +kernel
theorem d1_71 : decode method_3_code 71 = .ok (.iconst 1, 1) := by decide +kernel
theorem d1_72 : decode method_3_code 72 = .ok (.iload_n 2, 1) := by decide +kernel
theorem d1_73 : decode method_3_code 73 = .ok (.castore, 1) := by decide +kernel
theorem d1_74 : decode method_3_code 74 = .ok (.dup, 1) := by decide +kernel
theorem d1_75 : decode method_3_code 75 = .ok (.iconst 2, 1) := by decide +kernel
theorem d1_76 : decode method_3_code 76 = .ok (.iload_n 3, 1) := by decide +kernel
theorem d1_77 : decode method_3_code 77 = .ok (.castore, 1) := by decide +kernel
theorem d1_78 : decode method_3_code 78 = .ok (.invokespecial 28, 3) := by decide +kernel
theorem d1_81 : decode method_3_code 81 = .ok (.areturn, 1) := by decide +kernel
theorem d2_0 : decode jdk_42_method_3_code 0 = .ok (.aload_n 0, 1) := by decide +kernel
theorem d2_1 : decode jdk_42_method_3_code 1 = .ok (.aload_n 1, 1) := by decide +kernel
theorem d2_2 : decode jdk_42_method_3_code 2 = .ok (.iconst 0, 1) := by decide +kernel
theorem d2_3 : decode jdk_42_method_3_code 3 = .ok (.aload_n 1, 1) := by decide +kernel
theorem d2_4 : decode jdk_42_method_3_code 4 = .ok (.arraylength, 1) := by decide +kernel
theorem d2_5 : decode jdk_42_method_3_code 5 = .ok (.aconst_null, 1) := by decide +kernel
theorem d2_6 : decode jdk_42_method_3_code 6 = .ok (.invokespecial 27, 3) := by decide +kernel
theorem d2_9 : decode jdk_42_method_3_code 9 = .ok (.return_, 1) := by decide +kernel
theorem d3_0 : decode jdk_42_method_149_code 0 = .ok (.aload_n 0, 1) := by decide +kernel
theorem d3_1 : decode jdk_42_method_149_code 1 = .ok (.invokespecial 1, 3) := by decide +kernel
theorem d3_4 : decode jdk_42_method_149_code 4 = .ok (.iload_n 3, 1) := by decide +kernel
theorem d3_5 : decode jdk_42_method_149_code 5 = .ok (.ifCond .ne 22, 3) := by decide +kernel
theorem d3_8 : decode jdk_42_method_149_code 8 = .ok (.aload_n 0, 1) := by decide +kernel
theorem d3_9 : decode jdk_42_method_149_code 9 = .ok (.ldc 7, 2) := by decide +kernel
theorem d3_11 : decode jdk_42_method_149_code 11 = .ok (.getfield 9, 3) := by decide +kernel
theorem d3_14 : decode jdk_42_method_149_code 14 = .ok (.putfield 9, 3) := by decide +kernel
theorem d3_17 : decode jdk_42_method_149_code 17 = .ok (.aload_n 0, 1) := by decide +kernel
theorem d3_18 : decode jdk_42_method_149_code 18 = .ok (.ldc 7, 2) := by decide +kernel
theorem d3_20 : decode jdk_42_method_149_code 20 = .ok (.getfield 15, 3) := by decide +kernel
theorem d3_23 : decode jdk_42_method_149_code 23 = .ok (.putfield 15, 3) := by decide +kernel
theorem d3_26 : decode jdk_42_method_149_code 26 = .ok (.return_, 1) := by decide +kernel
theorem d3_27 : decode jdk_42_method_149_code 27 = .ok (.getstatic 38, 3) := by decide +kernel
theorem d3_30 : decode jdk_42_method_149_code 30 = .ok (.ifCond .eq 28, 3) := by decide +kernel
theorem d3_33 : decode jdk_42_method_149_code 33 = .ok (.aload_n 1, 1) := by decide +kernel
theorem d3_34 : decode jdk_42_method_149_code 34 = .ok (.iload_n 2, 1) := by decide +kernel
theorem d3_35 : decode jdk_42_method_149_code 35 = .ok (.iload_n 3, 1) := by decide +kernel
theorem d3_36 : decode jdk_42_method_149_code 36 = .ok (.invokestatic 177, 3) := by decide +kernel
theorem d3_39 : decode jdk_42_method_149_code 39 = .ok (.astore 5, 2) := by decide +kernel
theorem d3_41 : decode jdk_42_method_149_code 41 = .ok (.aload_n 0, 1) := by decide +kernel
theorem d3_42 : decode jdk_42_method_149_code 42 = .ok (.aload 5, 2) := by decide +kernel
theorem d3_44 : decode jdk_42_method_149_code 44 = .ok (.iload_n 3, 1) := by decide +kernel
theorem d3_45 : decode jdk_42_method_149_code 45 = .ok (.invokestatic 47, 3) := by decide +kernel
theorem d3_48 : decode jdk_42_method_149_code 48 = .ok (.putfield 15, 3) := by decide +kernel
theorem d3_51 : decode jdk_42_method_149_code 51 = .ok (.aload_n 0, 1) := by decide +kernel
theorem d3_52 : decode jdk_42_method_149_code 52 = .ok (.aload 5, 2) := by decide +kernel
theorem d3_54 : decode jdk_42_method_149_code 54 = .ok (.putfield 9, 3) := by decide +kernel
theorem d3_57 : decode jdk_42_method_149_code 57 = .ok (.return_, 1) := by decide +kernel
theorem d5_0 : decode method_4_code 0 = .ok (.iload_n 0, 1) := by decide +kernel
theorem d5_1 : decode method_4_code 1 = .ok (.ifCond .ne 19, 3) := by decide +kernel
theorem d5_4 : decode method_4_code 4 = .ok (.new 23, 3) := by decide +kernel
theorem d5_7 : decode method_4_code 7 = .ok (.dup, 1) := by decide +kernel
theorem d5_8 : decode method_4_code 8 = .ok (.iconst 1, 1) := by decide +kernel
theorem d5_9 : decode method_4_code 9 = .ok (.newarray .char, 2) := by decide +kernel
theorem d5_11 : decode method_4_code 11 = .ok (.dup, 1) := by decide +kernel
theorem d5_12 : decode method_4_code 12 = .ok (.iconst 0, 1) := by decide +kernel
theorem d5_13 : decode method_4_code 13 = .ok (.bipush 47, 2) := by decide +kernel
theorem d5_15 : decode method_4_code 15 = .ok (.castore, 1) := by decide +kernel
theorem d5_16 : decode method_4_code 16 = .ok (.invokespecial 28, 3) := by decide +kernel
theorem d5_19 : decode method_4_code 19 = .ok (.areturn, 1) := by decide +kernel
theorem d5_20 : decode method_4_code 20 = .ok (.iload_n 0, 1) := by decide +kernel
theorem d5_21 : decode method_4_code 21 = .ok (.iconst 1, 1) := by decide +kernel
theorem d5_22 : decode method_4_code 22 = .ok (.if_icmp .ne 23, 3) := by decide +kernel
theorem d5_25 : decode method_4_code 25 = .ok (.new 23, 3) := by decide +kernel
theorem d5_28 : decode method_4_code 28 = .ok (.dup, 1) := by decide +kernel
theorem d5_29 : decode method_4_code 29 = .ok (.iconst 2, 1) := by decide +kernel
theorem d5_30 : decode method_4_code 30 = .ok (.newarray .char, 2) := by decide +kernel
theorem d5_32 : decode method_4_code 32 = .ok (.dup, 1) := by decide +kernel
theorem d5_33 : decode method_4_code 33 = .ok (.iconst 0, 1) := by decide +kernel
theorem d5_34 : decode method_4_code 34 = .ok (.iload_n 1, 1) := by decide +kernel
theorem d5_35 : decode method_4_code 35 = .ok (.castore, 1) := by decide +kernel
theorem d5_36 : decode method_4_code 36 = .ok (.dup, 1) := by decide +kernel
theorem d5_37 : decode method_4_code 37 = .ok (.iconst 1, 1) := by decide +kernel
theorem d5_38 : decode method_4_code 38 = .ok (.bipush 47, 2) := by decide +kernel
theorem d5_40 : decode method_4_code 40 = .ok (.castore, 1) := by decide +kernel
theorem d5_41 : decode method_4_code 41 = .ok (.invokespecial 28, 3) := by decide +kernel
theorem d5_44 : decode method_4_code 44 = .ok (.areturn, 1) := by decide +kernel
theorem d5_45 : decode method_4_code 45 = .ok (.iload_n 0, 1) := by decide +kernel
theorem d5_46 : decode method_4_code 46 = .ok (.iconst 2, 1) := by decide +kernel
theorem d5_47 : decode method_4_code 47 = .ok (.if_icmp .ne 27, 3) := by decide +kernel
theorem d5_50 : decode method_4_code 50 = .ok (.new 23, 3) := by decide +kernel
theorem d5_53 : decode method_4_code 53 = .ok (.dup, 1) := by decide +kernel
theorem d5_54 : decode method_4_code 54 = .ok (.iconst 3, 1) := by decide +kernel
theorem d5_55 : decode method_4_code 55 = .ok (.newarray .char, 2) := by decide +kernel
theorem d5_57 : decode method_4_code 57 = .ok (.dup, 1) := by decide +kernel
theorem d5_58 : decode method_4_code 58 = .ok (.iconst 0, 1) := by decide +kernel
theorem d5_59 : decode method_4_code 59 = .ok (.iload_n 1, 1) := by decide +kernel
theorem d5_60 : decode method_4_code 60 = .ok (.castore, 1) := by decide +kernel
theorem d5_61 : decode method_4_code 61 = .ok (.dup, 1) := by decide +kernel
theorem d5_62 : decode method_4_code 62 = .ok (.iconst 1, 1) := by decide +kernel
theorem d5_63 : decode method_4_code 63 = .ok (.iload_n 2, 1) := by decide +kernel
theorem d5_64 : decode method_4_code 64 = .ok (.castore, 1) := by decide +kernel
theorem d5_65 : decode method_4_code 65 = .ok (.dup, 1) := by decide +kernel
theorem d5_66 : decode method_4_code 66 = .ok (.iconst 2, 1) := by decide +kernel
theorem d5_67 : decode method_4_code 67 = .ok (.bipush 47, 2) := by decide +kernel
theorem d5_69 : decode method_4_code 69 = .ok (.castore, 1) := by decide +kernel
theorem d5_70 : decode method_4_code 70 = .ok (.invokespecial 28, 3) := by decide +kernel
theorem d5_73 : decode method_4_code 73 = .ok (.areturn, 1) := by decide +kernel
theorem d5_74 : decode method_4_code 74 = .ok (.new 23, 3) := by decide +kernel
theorem d5_77 : decode method_4_code 77 = .ok (.dup, 1) := by decide +kernel
theorem d5_78 : decode method_4_code 78 = .ok (.iconst 4, 1) := by decide +kernel
theorem d5_79 : decode method_4_code 79 = .ok (.newarray .char, 2) := by decide +kernel
theorem d5_81 : decode method_4_code 81 = .ok (.dup, 1) := by decide +kernel
theorem d5_82 : decode method_4_code 82 = .ok (.iconst 0, 1) := by decide +kernel
theorem d5_83 : decode method_4_code 83 = .ok (.iload_n 1, 1) := by decide +kernel
theorem d5_84 : decode method_4_code 84 = .ok (.castore, 1) := by decide +kernel
theorem d5_85 : decode method_4_code 85 = .ok (.dup, 1) := by decide +kernel
theorem d5_86 : decode method_4_code 86 = .ok (.iconst 1, 1) := by decide +kernel
theorem d5_87 : decode method_4_code 87 = .ok (.iload_n 2, 1) := by decide +kernel
theorem d5_88 : decode method_4_code 88 = .ok (.castore, 1) := by decide +kernel
theorem d5_89 : decode method_4_code 89 = .ok (.dup, 1) := by decide +kernel
theorem d5_90 : decode method_4_code 90 = .ok (.iconst 2, 1) := by decide +kernel
theorem d5_91 : decode method_4_code 91 = .ok (.iload_n 3, 1) := by decide +kernel
theorem d5_92 : decode method_4_code 92 = .ok (.castore, 1) := by decide +kernel
theorem d5_93 : decode method_4_code 93 = .ok (.dup, 1) := by decide +kernel
theorem d5_94 : decode method_4_code 94 = .ok (.iconst 3, 1) := by decide +kernel
theorem d5_95 : decode method_4_code 95 = .ok (.bipush 47, 2) := by decide +kernel
theorem d5_97 : decode method_4_code 97 = .ok (.castore, 1) := by decide +kernel
theorem d5_98 : decode method_4_code 98 = .ok (.invokespecial 28, 3) := by decide +kernel
theorem d5_101 : decode method_4_code 101 = .ok (.areturn, 1) := by decide +kernel
theorem d6_0 : decode jdk_52_method_16_code 0 = .ok (.iload_n 2, 1) := by decide +kernel
theorem d6_1 : decode jdk_52_method_16_code 1 = .ok (.newarray .byte, 2) := by decide +kernel
theorem d6_3 : decode jdk_52_method_16_code 3 = .ok (.astore_n 3, 1) := by decide +kernel
theorem d6_4 : decode jdk_52_method_16_code 4 = .ok (.aload_n 0, 1) := by decide +kernel
theorem d6_5 : decode jdk_52_method_16_code 5 = .ok (.iload_n 1, 1) := by decide +kernel
theorem d6_6 : decode jdk_52_method_16_code 6 = .ok (.aload_n 3, 1) := by decide +kernel
theorem d6_7 : decode jdk_52_method_16_code 7 = .ok (.iconst 0, 1) := by decide +kernel
theorem d6_8 : decode jdk_52_method_16_code 8 = .ok (.iload_n 2, 1) := by decide +kernel
theorem d6_9 : decode jdk_52_method_16_code 9 = .ok (.invokestatic 115, 3) := by decide +kernel
theorem d6_12 : decode jdk_52_method_16_code 12 = .ok (.istore 4, 2) := by decide +kernel
theorem d6_14 : decode jdk_52_method_16_code 14 = .ok (.iload 4, 2) := by decide +kernel
theorem d6_16 : decode jdk_52_method_16_code 16 = .ok (.iload_n 2, 1) := by decide +kernel
theorem d6_17 : decode jdk_52_method_16_code 17 = .ok (.if_icmp .eq 40, 3) := by decide +kernel
theorem d6_57 : decode jdk_52_method_16_code 57 = .ok (.aload_n 3, 1) := by decide +kernel
theorem d6_58 : decode jdk_52_method_16_code 58 = .ok (.areturn, 1) := by decide +kernel
theorem d7_0 : decode jdk_52_method_21_code 0 = .ok (.iconst 0, 1) := by decide +kernel
theorem d7_1 : decode jdk_52_method_21_code 1 = .ok (.istore 5, 2) := by decide +kernel
theorem d7_3 : decode jdk_52_method_21_code 3 = .ok (.iload 5, 2) := by decide +kernel
theorem d7_5 : decode jdk_52_method_21_code 5 = .ok (.iload 4, 2) := by decide +kernel
theorem d7_7 : decode jdk_52_method_21_code 7 = .ok (.if_icmp .ge 37, 3) := by decide +kernel
theorem d7_10 : decode jdk_52_method_21_code 10 = .ok (.aload_n 0, 1) := by decide +kernel
theorem d7_11 : decode jdk_52_method_21_code 11 = .ok (.iload_n 1, 1) := by decide +kernel
theorem d7_12 : decode jdk_52_method_21_code 12 = .ok (.caload, 1) := by decide +kernel
theorem d7_13 : decode jdk_52_method_21_code 13 = .ok (.istore 6, 2) := by decide +kernel
theorem d7_15 : decode jdk_52_method_21_code 15 = .ok (.iload 6, 2) := by decide +kernel
theorem d7_17 : decode jdk_52_method_21_code 17 = .ok (.sipush 255, 3) := by decide +kernel
theorem d7_20 : decode jdk_52_method_21_code 20 = .ok (.if_icmp .le 6, 3) := by decide +kernel
theorem d7_26 : decode jdk_52_method_21_code 26 = .ok (.aload_n 2, 1) := by decide +kernel
theorem d7_27 : decode jdk_52_method_21_code 27 = .ok (.iload_n 3, 1) := by decide +kernel
theorem d7_28 : decode jdk_52_method_21_code 28 = .ok (.iload 6, 2) := by decide +kernel
theorem d7_30 : decode jdk_52_method_21_code 30 = .ok (.i2b, 1) := by decide +kernel
theorem d7_31 : decode jdk_52_method_21_code 31 = .ok (.bastore, 1) := by decide +kernel
theorem d7_32 : decode jdk_52_method_21_code 32 = .ok (.iinc 1 1, 3) := by decide +kernel
theorem d7_35 : decode jdk_52_method_21_code 35 = .ok (.iinc 3 1, 3) := by decide +kernel
theorem d7_38 : decode jdk_52_method_21_code 38 = .ok (.iinc 5 1, 3) := by decide +kernel
theorem d7_41 : decode jdk_52_method_21_code 41 = .ok (.goto (-38), 3) := by decide +kernel
theorem d7_44 : decode jdk_52_method_21_code 44 = .ok (.iload 4, 2) := by decide +kernel
theorem d7_46 : decode jdk_52_method_21_code 46 = .ok (.ireturn, 1) := by decide +kernel
theorem d8_0 : decode jdk_52_method_15_code 0 = .ok (.iload_n 1, 1) := by decide +kernel
theorem d8_1 : decode jdk_52_method_15_code 1 = .ok (.aload_n 0, 1) := by decide +kernel
theorem d8_2 : decode jdk_52_method_15_code 2 = .ok (.arraylength, 1) := by decide +kernel
theorem d8_3 : decode jdk_52_method_15_code 3 = .ok (.isub, 1) := by decide +kernel
theorem d8_4 : decode jdk_52_method_15_code 4 = .ok (.bipush 31, 2) := by decide +kernel
theorem d8_6 : decode jdk_52_method_15_code 6 = .ok (.iushr, 1) := by decide +kernel
theorem d8_7 : decode jdk_52_method_15_code 7 = .ok (.i2b, 1) := by decide +kernel
theorem d8_8 : decode jdk_52_method_15_code 8 = .ok (.ireturn, 1) := by decide +kernel
theorem d9_0 : decode prog_40_method_4_code 0 = .ok (.aload_n 0, 1) := by decide +kernel
theorem d9_1 : decode prog_40_method_4_code 1 = .ok (.iconst 0, 1) := by decide +kernel
theorem d9_2 : decode prog_40_method_4_code 2 = .ok (.aload_n 0, 1) := by decide +kernel
theorem d9_3 : decode prog_40_method_4_code 3 = .ok (.invokevirtual 29, 3) := by decide +kernel
theorem d9_6 : decode prog_40_method_4_code 6 = .ok (.ldc 21, 2) := by decide +kernel
theorem d9_8 : decode prog_40_method_4_code 8 = .ok (.invokevirtual 29, 3) := by decide +kernel
theorem d9_11 : decode prog_40_method_4_code 11 = .ok (.isub, 1) := by decide +kernel
theorem d9_12 : decode prog_40_method_4_code 12 = .ok (.invokevirtual 33, 3) := by decide +kernel
theorem d9_15 : decode prog_40_method_4_code 15 = .ok (.areturn, 1) := by decide +kernel
theorem d10_0 : decode jdk_42_method_54_code 0 = .ok (.aload_n 0, 1) := by decide +kernel
theorem d10_1 : decode jdk_42_method_54_code 1 = .ok (.getfield 9, 3) := by decide +kernel
theorem d10_4 : decode jdk_42_method_54_code 4 = .ok (.arraylength, 1) := by decide +kernel
theorem d10_5 : decode jdk_42_method_54_code 5 = .ok (.aload_n 0, 1) := by decide +kernel
theorem d10_6 : decode jdk_42_method_54_code 6 = .ok (.invokevirtual 335, 3) := by decide +kernel
theorem d10_9 : decode jdk_42_method_54_code 9 = .ok (.ishr, 1) := by decide +kernel
theorem d10_10 : decode jdk_42_method_54_code 10 = .ok (.ireturn, 1) := by decide +kernel
theorem d11_0 : decode jdk_42_method_152_code 0 = .ok (.getstatic 38, 3) := by decide +kernel
theorem d11_3 : decode jdk_42_method_152_code 3 = .ok (.ifCond .eq 10, 3) := by decide +kernel
theorem d11_6 : decode jdk_42_method_152_code 6 = .ok (.aload_n 0, 1) := by decide +kernel
theorem d11_7 : decode jdk_42_method_152_code 7 = .ok (.getfield 15, 3) := by decide +kernel
theorem d11_10 : decode jdk_42_method_152_code 10 = .ok (.goto 4, 3) := by decide +kernel
theorem d11_14 : decode jdk_42_method_152_code 14 = .ok (.ireturn, 1) := by decide +kernel
theorem d12_0 : decode jdk_42_method_92_code 0 = .ok (.aload_n 0, 1) := by decide +kernel
theorem d12_1 : decode jdk_42_method_92_code 1 = .ok (.invokevirtual 505, 3) := by decide +kernel
theorem d12_4 : decode jdk_42_method_92_code 4 = .ok (.istore_n 3, 1) := by decide +kernel
theorem d12_5 : decode jdk_42_method_92_code 5 = .ok (.iload_n 1, 1) := by decide +kernel
theorem d12_6 : decode jdk_42_method_92_code 6 = .ok (.iload_n 2, 1) := by decide +kernel
theorem d12_7 : decode jdk_42_method_92_code 7 = .ok (.iload_n 3, 1) := by decide +kernel
theorem d12_8 : decode jdk_42_method_92_code 8 = .ok (.invokestatic 521, 3) := by decide +kernel
theorem d12_11 : decode jdk_42_method_92_code 11 = .ok (.iload_n 1, 1) := by decide +kernel
theorem d12_12 : decode jdk_42_method_92_code 12 = .ok (.ifCond .ne 10, 3) := by decide +kernel
theorem d12_15 : decode jdk_42_method_92_code 15 = .ok (.iload_n 2, 1) := by decide +kernel
theorem d12_16 : decode jdk_42_method_92_code 16 = .ok (.iload_n 3, 1) := by decide +kernel
theorem d12_17 : decode jdk_42_method_92_code 17 = .ok (.if_icmp .ne 5, 3) := by decide +kernel
theorem d12_22 : decode jdk_42_method_92_code 22 = .ok (.iload_n 2, 1) := by decide +kernel
theorem d12_23 : decode jdk_42_method_92_code 23 = .ok (.iload_n 1, 1) := by decide +kernel
theorem d12_24 : decode jdk_42_method_92_code 24 = .ok (.isub, 1) := by decide +kernel
theorem d12_25 : decode jdk_42_method_92_code 25 = .ok (.istore 4, 2) := by decide +kernel
theorem d12_27 : decode jdk_42_method_92_code 27 = .ok (.aload_n 0, 1) := by decide +kernel
theorem d12_28 : decode jdk_42_method_92_code 28 = .ok (.invokevirtual 492, 3) := by decide +kernel
theorem d12_31 : decode jdk_42_method_92_code 31 = .ok (.ifCond .eq 16, 3) := by decide +kernel
theorem d12_34 : decode jdk_42_method_92_code 34 = .ok (.aload_n 0, 1) := by decide +kernel
theorem d12_35 : decode jdk_42_method_92_code 35 = .ok (.getfield 9, 3) := by decide +kernel
theorem d12_38 : decode jdk_42_method_92_code 38 = .ok (.iload_n 1, 1) := by decide +kernel
theorem d12_39 : decode jdk_42_method_92_code 39 = .ok (.iload 4, 2) := by decide +kernel
theorem d12_41 : decode jdk_42_method_92_code 41 = .ok (.invokestatic 685, 3) := by decide +kernel
theorem d12_44 : decode jdk_42_method_92_code 44 = .ok (.goto 13, 3) := by decide +kernel
theorem d12_57 : decode jdk_42_method_92_code 57 = .ok (.areturn, 1) := by decide +kernel
theorem d13_0 : decode jdk_42_method_158_code 0 = .ok (.iload_n 0, 1) := by decide +kernel
theorem d13_1 : decode jdk_42_method_158_code 1 = .ok (.iload_n 1, 1) := by decide +kernel
theorem d13_2 : decode jdk_42_method_158_code 2 = .ok (.iload_n 2, 1) := by decide +kernel
theorem d13_3 : decode jdk_42_method_158_code 3 = .ok (.getstatic 1053, 3) := by decide +kernel
theorem d13_6 : decode jdk_42_method_158_code 6 = .ok (.invokestatic 1062, 3) := by decide +kernel
theorem d13_9 : decode jdk_42_method_158_code 9 = .ok (.pop, 1) := by decide +kernel
theorem d13_10 : decode jdk_42_method_158_code 10 = .ok (.return_, 1) := by decide +kernel
theorem d14_0 : decode jdk_41_method_12_code 0 = .ok (.iload_n 0, 1) := by decide +kernel
theorem d14_1 : decode jdk_41_method_12_code 1 = .ok (.ifCond .lt 13, 3) := by decide +kernel
theorem d14_4 : decode jdk_41_method_12_code 4 = .ok (.iload_n 0, 1) := by decide +kernel
theorem d14_5 : decode jdk_41_method_12_code 5 = .ok (.iload_n 1, 1) := by decide +kernel
theorem d14_6 : decode jdk_41_method_12_code 6 = .ok (.if_icmp .gt 8, 3) := by decide +kernel
theorem d14_9 : decode jdk_41_method_12_code 9 = .ok (.iload_n 1, 1) := by decide +kernel
theorem d14_10 : decode jdk_41_method_12_code 10 = .ok (.iload_n 2, 1) := by decide +kernel
theorem d14_11 : decode jdk_41_method_12_code 11 = .ok (.if_icmp .le 11, 3) := by decide +kernel
theorem d14_22 : decode jdk_41_method_12_code 22 = .ok (.iload_n 0, 1) := by decide +kernel
theorem d14_23 : decode jdk_41_method_12_code 23 = .ok (.ireturn, 1) := by decide +kernel
theorem d15_0 : decode jdk_42_method_154_code 0 = .ok (.getstatic 38, 3) := by decide +kernel
theorem d15_3 : decode jdk_42_method_154_code 3 = .ok (.ifCond .eq 14, 3) := by decide +kernel
theorem d15_6 : decode jdk_42_method_154_code 6 = .ok (.aload_n 0, 1) := by decide +kernel
theorem d15_7 : decode jdk_42_method_154_code 7 = .ok (.getfield 15, 3) := by decide +kernel
theorem d15_10 : decode jdk_42_method_154_code 10 = .ok (.ifCond .ne 7, 3) := by decide +kernel
theorem d15_13 : decode jdk_42_method_154_code 13 = .ok (.iconst 1, 1) := by decide +kernel
theorem d15_14 : decode jdk_42_method_154_code 14 = .ok (.goto 4, 3) := by decide +kernel
theorem d15_18 : decode jdk_42_method_154_code 18 = .ok (.ireturn, 1) := by decide +kernel
theorem d16_0 : decode jdk_43_method_47_code 0 = .ok (.iload_n 2, 1) := by decide +kernel
theorem d16_1 : decode jdk_43_method_47_code 1 = .ok (.ifCond .ne 6, 3) := by decide +kernel
theorem d16_4 : decode jdk_43_method_47_code 4 = .ok (.ldc 151, 2) := by decide +kernel
theorem d16_6 : decode jdk_43_method_47_code 6 = .ok (.areturn, 1) := by decide +kernel
theorem d16_7 : decode jdk_43_method_47_code 7 = .ok (.new 1, 3) := by decide +kernel
theorem d16_10 : decode jdk_43_method_47_code 10 = .ok (.dup, 1) := by decide +kernel
theorem d16_11 : decode jdk_43_method_47_code 11 = .ok (.aload_n 0, 1) := by decide +kernel
theorem d16_12 : decode jdk_43_method_47_code 12 = .ok (.iload_n 1, 1) := by decide +kernel
theorem d16_13 : decode jdk_43_method_47_code 13 = .ok (.iload_n 1, 1) := by decide +kernel
theorem d16_14 : decode jdk_43_method_47_code 14 = .ok (.iload_n 2, 1) := by decide +kernel
theorem d16_15 : decode jdk_43_method_47_code 15 = .ok (.iadd, 1) := by decide +kernel
theorem d16_16 : decode jdk_43_method_47_code 16 = .ok (.invokestatic 232, 3) := by decide +kernel
theorem d16_19 : decode jdk_43_method_47_code 19 = .ok (.iconst 0, 1) := by decide +kernel
theorem d16_20 : decode jdk_43_method_47_code 20 = .ok (.invokespecial 112, 3) := by decide +kernel
theorem d16_23 : decode jdk_43_method_47_code 23 = .ok (.areturn, 1) := by decide +kernel
theorem d17_0 : decode jdk_42_method_66_code 0 = .ok (.aload_n 0, 1) := by decide +kernel
theorem d17_1 : decode jdk_42_method_66_code 1 = .ok (.aload_n 1, 1) := by decide +kernel
theorem d17_2 : decode jdk_42_method_66_code 2 = .ok (.if_acmp .ne 5, 3) := by decide +kernel
theorem d17_5 : decode jdk_42_method_66_code 5 = .ok (.iconst 1, 1) := by decide +kernel
theorem d17_6 : decode jdk_42_method_66_code 6 = .ok (.ireturn, 1) := by decide +kernel
theorem d17_7 : decode jdk_42_method_66_code 7 = .ok (.aload_n 1, 1) := by decide +kernel
theorem d17_8 : decode jdk_42_method_66_code 8 = .ok (.instanceof 10, 3) := by decide +kernel
theorem d17_11 : decode jdk_42_method_66_code 11 = .ok (.ifCond .eq 43, 3) := by decide +kernel
theorem d17_14 : decode jdk_42_method_66_code 14 = .ok (.aload_n 1, 1) := by decide +kernel
theorem d17_15 : decode jdk_42_method_66_code 15 = .ok (.checkcast 10, 3) := by decide +kernel
theorem d17_18 : decode jdk_42_method_66_code 18 = .ok (.astore_n 2, 1) := by decide +kernel
theorem d17_19 : decode jdk_42_method_66_code 19 = .ok (.getstatic 38, 3) := by decide +kernel
theorem d17_22 : decode jdk_42_method_66_code 22 = .ok (.ifCond .eq 14, 3) := by decide +kernel
theorem d17_25 : decode jdk_42_method_66_code 25 = .ok (.aload_n 0, 1) := by decide +kernel
theorem d17_26 : decode jdk_42_method_66_code 26 = .ok (.getfield 15, 3) := by decide +kernel
theorem d17_29 : decode jdk_42_method_66_code 29 = .ok (.aload_n 2, 1) := by decide +kernel
theorem d17_30 : decode jdk_42_method_66_code 30 = .ok (.getfield 15, 3) := by decide +kernel
theorem d17_33 : decode jdk_42_method_66_code 33 = .ok (.if_icmp .ne 21, 3) := by decide +kernel
theorem d17_36 : decode jdk_42_method_66_code 36 = .ok (.aload_n 0, 1) := by decide +kernel
theorem d17_37 : decode jdk_42_method_66_code 37 = .ok (.getfield 9, 3) := by decide +kernel
theorem d17_40 : decode jdk_42_method_66_code 40 = .ok (.aload_n 2, 1) := by decide +kernel
theorem d17_41 : decode jdk_42_method_66_code 41 = .ok (.getfield 9, 3) := by decide +kernel
theorem d17_44 : decode jdk_42_method_66_code 44 = .ok (.invokestatic 541, 3) := by decide +kernel
theorem d17_47 : decode jdk_42_method_66_code 47 = .ok (.ifCond .eq 7, 3) := by decide +kernel
theorem d17_50 : decode jdk_42_method_66_code 50 = .ok (.iconst 1, 1) := by decide +kernel
theorem d17_51 : decode jdk_42_method_66_code 51 = .ok (.goto 4, 3) := by decide +kernel
theorem d17_55 : decode jdk_42_method_66_code 55 = .ok (.ireturn, 1) := by decide +kernel
theorem d18_0 : decode jdk_43_method_13_code 0 = .ok (.aload_n 0, 1) := by decide +kernel
theorem d18_1 : decode jdk_43_method_13_code 1 = .ok (.arraylength, 1) := by decide +kernel
theorem d18_2 : decode jdk_43_method_13_code 2 = .ok (.aload_n 1, 1) := by decide +kernel
theorem d18_3 : decode jdk_43_method_13_code 3 = .ok (.arraylength, 1) := by decide +kernel
theorem d18_4 : decode jdk_43_method_13_code 4 = .ok (.if_icmp .ne 30, 3) := by decide +kernel
theorem d18_7 : decode jdk_43_method_13_code 7 = .ok (.iconst 0, 1) := by decide +kernel
theorem d18_8 : decode jdk_43_method_13_code 8 = .ok (.istore_n 2, 1) := by decide +kernel
theorem d18_9 : decode jdk_43_method_13_code 9 = .ok (.iload_n 2, 1) := by decide +kernel
theorem d18_10 : decode jdk_43_method_13_code 10 = .ok (.aload_n 0, 1) := by decide +kernel
theorem d18_11 : decode jdk_43_method_13_code 11 = .ok (.arraylength, 1) := by decide +kernel
theorem d18_12 : decode jdk_43_method_13_code 12 = .ok (.if_icmp .ge 20, 3) := by decide +kernel
theorem d18_15 : decode jdk_43_method_13_code 15 = .ok (.aload_n 0, 1) := by decide +kernel
theorem d18_16 : decode jdk_43_method_13_code 16 = .ok (.iload_n 2, 1) := by decide +kernel
theorem d18_17 : decode jdk_43_method_13_code 17 = .ok (.baload, 1) := by decide +kernel
theorem d18_18 : decode jdk_43_method_13_code 18 = .ok (.aload_n 1, 1) := by decide +kernel
theorem d18_19 : decode jdk_43_method_13_code 19 = .ok (.iload_n 2, 1) := by decide +kernel
theorem d18_20 : decode jdk_43_method_13_code 20 = .ok (.baload, 1) := by decide +kernel
theorem d18_21 : decode jdk_43_method_13_code 21 = .ok (.if_icmp .eq 5, 3) := by decide +kernel
theorem d18_26 : decode jdk_43_method_13_code 26 = .ok (.iinc 2 1, 3) := by decide +kernel
theorem d18_29 : decode jdk_43_method_13_code 29 = .ok (.goto (-20), 3) := by decide +kernel
theorem d18_32 : decode jdk_43_method_13_code 32 = .ok (.iconst 1, 1) := by decide +kernel
theorem d18_33 : decode jdk_43_method_13_code 33 = .ok (.ireturn, 1) := by decide +kernel
theorem d19_0 : decode jdk_65_method_132_code 0 = .ok (.iload_n 1, 1) := by decide +kernel
theorem d19_1 : decode jdk_65_method_132_code 1 = .ok (.ifCond .ne 9, 3) := by decide +kernel
theorem d19_4 : decode jdk_65_method_132_code 4 = .ok (.iload_n 2, 1) := by decide +kernel
theorem d19_5 : decode jdk_65_method_132_code 5 = .ok (.aload_n 0, 1) := by decide +kernel
theorem d19_6 : decode jdk_65_method_132_code 6 = .ok (.arraylength, 1) := by decide +kernel
theorem d19_7 : decode jdk_65_method_132_code 7 = .ok (.if_icmp .eq 10, 3) := by decide +kernel
theorem d19_10 : decode jdk_65_method_132_code 10 = .ok (.aload_n 0, 1) := by decide +kernel
theorem d19_11 : decode jdk_65_method_132_code 11 = .ok (.iload_n 1, 1) := by decide +kernel
theorem d19_12 : decode jdk_65_method_132_code 12 = .ok (.iload_n 2, 1) := by decide +kernel
theorem d19_13 : decode jdk_65_method_132_code 13 = .ok (.invokestatic 339, 3) := by decide +kernel
theorem d19_16 : decode jdk_65_method_132_code 16 = .ok (.areturn, 1) := by decide +kernel
theorem d20_0 : decode jdk_65_method_133_code 0 = .ok (.iload_n 1, 1) := by decide +kernel
theorem d20_1 : decode jdk_65_method_133_code 1 = .ok (.iload_n 2, 1) := by decide +kernel
theorem d20_2 : decode jdk_65_method_133_code 2 = .ok (.invokestatic 343, 3) := by decide +kernel
theorem d20_5 : decode jdk_65_method_133_code 5 = .ok (.iload_n 2, 1) := by decide +kernel
theorem d20_6 : decode jdk_65_method_133_code 6 = .ok (.iload_n 1, 1) := by decide +kernel
theorem d20_7 : decode jdk_65_method_133_code 7 = .ok (.isub, 1) := by decide +kernel
theorem d20_8 : decode jdk_65_method_133_code 8 = .ok (.istore_n 3, 1) := by decide +kernel
theorem d20_9 : decode jdk_65_method_133_code 9 = .ok (.iload_n 3, 1) := by decide +kernel
theorem d20_10 : decode jdk_65_method_133_code 10 = .ok (.newarray .byte, 2) := by decide +kernel
theorem d20_12 : decode jdk_65_method_133_code 12 = .ok (.astore 4, 2) := by decide +kernel
theorem d20_14 : decode jdk_65_method_133_code 14 = .ok (.aload_n 0, 1) := by decide +kernel
theorem d20_15 : decode jdk_65_method_133_code 15 = .ok (.iload_n 1, 1) := by decide +kernel
theorem d20_16 : decode jdk_65_method_133_code 16 = .ok (.aload 4, 2) := by decide +kernel
theorem d20_18 : decode jdk_65_method_133_code 18 = .ok (.iconst 0, 1) := by decide +kernel
theorem d20_19 : decode jdk_65_method_133_code 19 = .ok (.aload_n 0, 1) := by decide +kernel
theorem d20_20 : decode jdk_65_method_133_code 20 = .ok (.arraylength, 1) := by decide +kernel
theorem d20_21 : decode jdk_65_method_133_code 21 = .ok (.iload_n 1, 1) := by decide +kernel
theorem d20_22 : decode jdk_65_method_133_code 22 = .ok (.isub, 1) := by decide +kernel
theorem d20_23 : decode jdk_65_method_133_code 23 = .ok (.iload_n 3, 1) := by decide +kernel
theorem d20_24 : decode jdk_65_method_133_code 24 = .ok (.invokestatic 304, 3) := by decide +kernel
theorem d20_27 : decode jdk_65_method_133_code 27 = .ok (.invokestatic 150, 3) := by decide +kernel
theorem d20_30 : decode jdk_65_method_133_code 30 = .ok (.aload 4, 2) := by decide +kernel
theorem d20_32 : decode jdk_65_method_133_code 32 = .ok (.areturn, 1) := by decide +kernel
theorem d21_0 : decode jdk_65_method_131_code 0 = .ok (.iload_n 1, 1) := by decide +kernel
theorem d21_1 : decode jdk_65_method_131_code 1 = .ok (.iload_n 0, 1) := by decide +kernel
theorem d21_2 : decode jdk_65_method_131_code 2 = .ok (.if_icmp .ge 35, 3) := by decide +kernel
theorem d21_37 : decode jdk_65_method_131_code 37 = .ok (.return_, 1) := by decide +kernel
theorem d22_0 : decode jdk_29_method_69_code 0 = .ok (.iload_n 0, 1) := by decide +kernel
theorem d22_1 : decode jdk_29_method_69_code 1 = .ok (.iload_n 1, 1) := by decide +kernel
theorem d22_2 : decode jdk_29_method_69_code 2 = .ok (.if_icmp .gt 7, 3) := by decide +kernel
theorem d22_9 : decode jdk_29_method_69_code 9 = .ok (.iload_n 1, 1) := by decide +kernel
theorem d22_10 : decode jdk_29_method_69_code 10 = .ok (.ireturn, 1) := by decide +kernel
theorem d23_0 : decode jdk_42_method_151_code 0 = .ok (.aload_n 0, 1) := by decide +kernel
theorem d23_1 : decode jdk_42_method_151_code 1 = .ok (.invokespecial 1, 3) := by decide +kernel
theorem d23_4 : decode jdk_42_method_151_code 4 = .ok (.aload_n 0, 1) := by decide +kernel
theorem d23_5 : decode jdk_42_method_151_code 5 = .ok (.aload_n 1, 1) := by decide +kernel
theorem d23_6 : decode jdk_42_method_151_code 6 = .ok (.putfield 9, 3) := by decide +kernel
theorem d23_9 : decode jdk_42_method_151_code 9 = .ok (.aload_n 0, 1) := by decide +kernel
theorem d23_10 : decode jdk_42_method_151_code 10 = .ok (.iload_n 2, 1) := by decide +kernel
theorem d23_11 : decode jdk_42_method_151_code 11 = .ok (.putfield 15, 3) := by decide +kernel
theorem d23_14 : decode jdk_42_method_151_code 14 = .ok (.return_, 1) := by decide +kernel
theorem pd_0 : parseMethodDescriptor "()B" = some ⟨[], some .byte⟩ := by decide +kernel
theorem pd_1 : parseMethodDescriptor "(IIILjava/util/function/BiFunction;)I" = some ⟨[.int, .int, .int, (.object "java/util/function/BiFunction")], some .int⟩ := by decide +kernel
theorem pd_2 : parseMethodDescriptor "([CI[BII)I" = some ⟨[(.array .char), .int, (.array .byte), .int, .int], some .int⟩ := by decide +kernel
theorem pd_3 : parseMethodDescriptor "([CIILjava/lang/Void;)V" = some ⟨[(.array .char), .int, .int, (.object "java/lang/Void")], none⟩ := by decide +kernel
theorem pd_4 : parseMethodDescriptor "([CII)[B" = some ⟨[(.array .char), .int, .int], some (.array .byte)⟩ := by decide +kernel
theorem pd_5 : parseMethodDescriptor "([BI)B" = some ⟨[(.array .byte), .int], some .byte⟩ := by decide +kernel
theorem pd_6 : parseMethodDescriptor "([C)V" = some ⟨[(.array .char)], none⟩ := by decide +kernel
theorem pd_7 : parseMethodDescriptor "(II)V" = some ⟨[.int, .int], none⟩ := by decide +kernel
theorem pd_8 : parseMethodDescriptor "(II)I" = some ⟨[.int, .int], some .int⟩ := by decide +kernel
theorem pd_9 : parseMethodDescriptor "([BII)[B" = some ⟨[(.array .byte), .int, .int], some (.array .byte)⟩ := by decide +kernel
theorem pd_10 : parseMethodDescriptor "([BB)V" = some ⟨[(.array .byte), .byte], none⟩ := by decide +kernel
theorem pd_11 : parseMethodDescriptor "()I" = some ⟨[], some .int⟩ := by decide +kernel
theorem pd_12 : parseMethodDescriptor "(III)V" = some ⟨[.int, .int, .int], none⟩ := by decide +kernel
theorem pd_13 : parseMethodDescriptor "()Z" = some ⟨[], some .boolean⟩ := by decide +kernel
theorem pd_14 : parseMethodDescriptor "([BII)Ljava/lang/String;" = some ⟨[(.array .byte), .int, .int], some (.object "java/lang/String")⟩ := by decide +kernel
theorem pd_15 : parseMethodDescriptor "(II)Ljava/lang/String;" = some ⟨[.int, .int], some (.object "java/lang/String")⟩ := by decide +kernel
theorem pd_16 : parseMethodDescriptor "([B[B)Z" = some ⟨[(.array .byte), (.array .byte)], some .boolean⟩ := by decide +kernel
theorem pd_17 : parseMethodDescriptor "(ICCC)Ljava/lang/String;" = some ⟨[.int, .char, .char, .char], some (.object "java/lang/String")⟩ := by decide +kernel
theorem pd_18 : parseMethodDescriptor "(Ljava/lang/String;)Ljava/lang/String;" = some ⟨[(.object "java/lang/String")], some (.object "java/lang/String")⟩ := by decide +kernel
theorem pd_19 : parseMethodDescriptor "(Ljava/lang/Object;)Z" = some ⟨[(.object "java/lang/Object")], some .boolean⟩ := by decide +kernel
theorem pn_0 : plainName "java/lang/String" = true := by first | (simp [plainName, overriddenIn]; done) | decide +kernel
theorem pn_1 : plainName "jdk/internal/util/Preconditions" = true := by first | (simp [plainName, overriddenIn]; done) | decide +kernel
theorem pn_2 : plainName "java/lang/StringUTF16" = true := by first | (simp [plainName, overriddenIn]; done) | decide +kernel
theorem pn_3 : plainName "com/example/portunus/portunus/io/InvalidationDirectoryOfPinLaw" = true := by first | (simp [plainName, overriddenIn]; done) | decide +kernel
theorem pn_4 : plainName "java/util/Arrays" = true := by first | (simp [plainName, overriddenIn]; done) | decide +kernel
theorem pn_5 : plainName "java/lang/StringLatin1" = true := by first | (simp [plainName, overriddenIn]; done) | decide +kernel
theorem pn_6 : plainName "com/example/portunus/portunus/io/Invalidation" = true := by first | (simp [plainName, overriddenIn]; done) | decide +kernel
theorem ef_coder_0 (m : MethodId) (x0 : Addr) : entryFrame m #[(.ref x0)] 1 = mkF m 0 #[.val (.ref x0)] [] := by first | (simp [entryFrame, mkF, argsToLocals, Value.category]; done) | rfl
theorem ef_isLatin1_0 (m : MethodId) (x0 : Addr) : entryFrame m #[(.ref x0)] 1 = mkF m 0 #[.val (.ref x0)] [] := by first | (simp [entryFrame, mkF, argsToLocals, Value.category]; done) | rfl
theorem ef_length_0 (m : MethodId) (x0 : Addr) : entryFrame m #[(.ref x0)] 1 = mkF m 0 #[.val (.ref x0)] [] := by first | (simp [entryFrame, mkF, argsToLocals, Value.category]; done) | rfl
theorem ef_coder_1 (m : MethodId) (x0 : Addr) : entryFrame m #[(.ref x0)] 1 = mkF m 0 #[.val (.ref x0)] [] := by first | (simp [entryFrame, mkF, argsToLocals, Value.category]; done) | rfl
theorem ef_isLatin1_1 (m : MethodId) (x0 : Addr) : entryFrame m #[(.ref x0)] 1 = mkF m 0 #[.val (.ref x0)] [] := by first | (simp [entryFrame, mkF, argsToLocals, Value.category]; done) | rfl
theorem ef_length_1 (m : MethodId) (x0 : Addr) : entryFrame m #[(.ref x0)] 1 = mkF m 0 #[.val (.ref x0)] [] := by first | (simp [entryFrame, mkF, argsToLocals, Value.category]; done) | rfl
theorem ef_coder_2 (m : MethodId) (x0 : Addr) : entryFrame m #[(.ref x0)] 1 = mkF m 0 #[.val (.ref x0)] [] := by first | (simp [entryFrame, mkF, argsToLocals, Value.category]; done) | rfl
theorem ef_isLatin1_2 (m : MethodId) (x0 : Addr) : entryFrame m #[(.ref x0)] 1 = mkF m 0 #[.val (.ref x0)] [] := by first | (simp [entryFrame, mkF, argsToLocals, Value.category]; done) | rfl
theorem ef_length_2 (m : MethodId) (x0 : Addr) : entryFrame m #[(.ref x0)] 1 = mkF m 0 #[.val (.ref x0)] [] := by first | (simp [entryFrame, mkF, argsToLocals, Value.category]; done) | rfl
theorem ef_coder_3 (m : MethodId) (x0 : Addr) : entryFrame m #[(.ref x0)] 1 = mkF m 0 #[.val (.ref x0)] [] := by first | (simp [entryFrame, mkF, argsToLocals, Value.category]; done) | rfl
theorem ef_isLatin1_3 (m : MethodId) (x0 : Addr) : entryFrame m #[(.ref x0)] 1 = mkF m 0 #[.val (.ref x0)] [] := by first | (simp [entryFrame, mkF, argsToLocals, Value.category]; done) | rfl
theorem ef_length_3 (m : MethodId) (x0 : Addr) : entryFrame m #[(.ref x0)] 1 = mkF m 0 #[.val (.ref x0)] [] := by first | (simp [entryFrame, mkF, argsToLocals, Value.category]; done) | rfl
theorem ef_coder_4 (m : MethodId) (x0 : Addr) : entryFrame m #[(.ref x0)] 1 = mkF m 0 #[.val (.ref x0)] [] := by first | (simp [entryFrame, mkF, argsToLocals, Value.category]; done) | rfl
theorem ef_isLatin1_4 (m : MethodId) (x0 : Addr) : entryFrame m #[(.ref x0)] 1 = mkF m 0 #[.val (.ref x0)] [] := by first | (simp [entryFrame, mkF, argsToLocals, Value.category]; done) | rfl
theorem ef_length_4 (m : MethodId) (x0 : Addr) : entryFrame m #[(.ref x0)] 1 = mkF m 0 #[.val (.ref x0)] [] := by first | (simp [entryFrame, mkF, argsToLocals, Value.category]; done) | rfl
theorem ef_cft_0 (m : MethodId) (fm : Value) (hfm : fm.isRef = true) : entryFrame m #[(.int (0 : Int32)), (.int (0 : Int32)), (.int (1 : Int32)), fm] 4 = mkF m 0 #[.val (.int (0 : Int32)), .val (.int (0 : Int32)), .val (.int (1 : Int32)), .val fm] [] := by 
  rcases Jvm.Free.XT.refc hfm with rfl | ⟨w, rfl⟩
  all_goals first | (simp [entryFrame, mkF, argsToLocals, Value.category]; done) | rfl
theorem ef_cft_1 (m : MethodId) (fm : Value) (hfm : fm.isRef = true) : entryFrame m #[(.int (0 : Int32)), (.int (1 : Int32)), (.int (2 : Int32)), fm] 4 = mkF m 0 #[.val (.int (0 : Int32)), .val (.int (1 : Int32)), .val (.int (2 : Int32)), .val fm] [] := by 
  rcases Jvm.Free.XT.refc hfm with rfl | ⟨w, rfl⟩
  all_goals first | (simp [entryFrame, mkF, argsToLocals, Value.category]; done) | rfl
theorem ef_cft_2 (m : MethodId) (fm : Value) (hfm : fm.isRef = true) : entryFrame m #[(.int (0 : Int32)), (.int (2 : Int32)), (.int (3 : Int32)), fm] 4 = mkF m 0 #[.val (.int (0 : Int32)), .val (.int (2 : Int32)), .val (.int (3 : Int32)), .val fm] [] := by 
  rcases Jvm.Free.XT.refc hfm with rfl | ⟨w, rfl⟩
  all_goals first | (simp [entryFrame, mkF, argsToLocals, Value.category]; done) | rfl
theorem ef_cft_3 (m : MethodId) (fm : Value) (hfm : fm.isRef = true) : entryFrame m #[(.int (0 : Int32)), (.int (3 : Int32)), (.int (4 : Int32)), fm] 4 = mkF m 0 #[.val (.int (0 : Int32)), .val (.int (3 : Int32)), .val (.int (4 : Int32)), .val fm] [] := by 
  rcases Jvm.Free.XT.refc hfm with rfl | ⟨w, rfl⟩
  all_goals first | (simp [entryFrame, mkF, argsToLocals, Value.category]; done) | rfl
theorem ef_cb_0 (m : MethodId)  : entryFrame m #[(.int (0 : Int32)), (.int (0 : Int32)), (.int (1 : Int32))] 3 = mkF m 0 #[.val (.int (0 : Int32)), .val (.int (0 : Int32)), .val (.int (1 : Int32))] [] := by first | (simp [entryFrame, mkF, argsToLocals, Value.category]; done) | rfl
theorem ef_cb_1 (m : MethodId)  : entryFrame m #[(.int (0 : Int32)), (.int (1 : Int32)), (.int (2 : Int32))] 3 = mkF m 0 #[.val (.int (0 : Int32)), .val (.int (1 : Int32)), .val (.int (2 : Int32))] [] := by first | (simp [entryFrame, mkF, argsToLocals, Value.category]; done) | rfl
theorem ef_cb_2 (m : MethodId)  : entryFrame m #[(.int (0 : Int32)), (.int (2 : Int32)), (.int (3 : Int32))] 3 = mkF m 0 #[.val (.int (0 : Int32)), .val (.int (2 : Int32)), .val (.int (3 : Int32))] [] := by first | (simp [entryFrame, mkF, argsToLocals, Value.category]; done) | rfl
theorem ef_cb_3 (m : MethodId)  : entryFrame m #[(.int (0 : Int32)), (.int (3 : Int32)), (.int (4 : Int32))] 3 = mkF m 0 #[.val (.int (0 : Int32)), .val (.int (3 : Int32)), .val (.int (4 : Int32))] [] := by first | (simp [entryFrame, mkF, argsToLocals, Value.category]; done) | rfl
theorem ef_c2_1 (m : MethodId) (x0 : Addr) (x2 : Addr) : entryFrame m #[(.ref x0), (.int (0 : Int32)), (.ref x2), (.int (0 : Int32)), (.int (1 : Int32))] 7 = mkF m 0 #[.val (.ref x0), .val (.int (0 : Int32)), .val (.ref x2), .val (.int (0 : Int32)), .val (.int (1 : Int32)), .unset, .unset] [] := by first | (simp [entryFrame, mkF, argsToLocals, Value.category]; done) | rfl
theorem ef_c2_2 (m : MethodId) (x0 : Addr) (x2 : Addr) : entryFrame m #[(.ref x0), (.int (0 : Int32)), (.ref x2), (.int (0 : Int32)), (.int (2 : Int32))] 7 = mkF m 0 #[.val (.ref x0), .val (.int (0 : Int32)), .val (.ref x2), .val (.int (0 : Int32)), .val (.int (2 : Int32)), .unset, .unset] [] := by first | (simp [entryFrame, mkF, argsToLocals, Value.category]; done) | rfl
theorem ef_c2_3 (m : MethodId) (x0 : Addr) (x2 : Addr) : entryFrame m #[(.ref x0), (.int (0 : Int32)), (.ref x2), (.int (0 : Int32)), (.int (3 : Int32))] 7 = mkF m 0 #[.val (.ref x0), .val (.int (0 : Int32)), .val (.ref x2), .val (.int (0 : Int32)), .val (.int (3 : Int32)), .unset, .unset] [] := by first | (simp [entryFrame, mkF, argsToLocals, Value.category]; done) | rfl
theorem ef_c2_4 (m : MethodId) (x0 : Addr) (x2 : Addr) : entryFrame m #[(.ref x0), (.int (0 : Int32)), (.ref x2), (.int (0 : Int32)), (.int (4 : Int32))] 7 = mkF m 0 #[.val (.ref x0), .val (.int (0 : Int32)), .val (.ref x2), .val (.int (0 : Int32)), .val (.int (4 : Int32)), .unset, .unset] [] := by first | (simp [entryFrame, mkF, argsToLocals, Value.category]; done) | rfl
theorem ef_c1_1 (m : MethodId) (x0 : Addr) : entryFrame m #[(.ref x0), (.int (0 : Int32)), (.int (1 : Int32))] 6 = mkF m 0 #[.val (.ref x0), .val (.int (0 : Int32)), .val (.int (1 : Int32)), .unset, .unset, .unset] [] := by first | (simp [entryFrame, mkF, argsToLocals, Value.category]; done) | rfl
theorem ef_c1_2 (m : MethodId) (x0 : Addr) : entryFrame m #[(.ref x0), (.int (0 : Int32)), (.int (2 : Int32))] 6 = mkF m 0 #[.val (.ref x0), .val (.int (0 : Int32)), .val (.int (2 : Int32)), .unset, .unset, .unset] [] := by first | (simp [entryFrame, mkF, argsToLocals, Value.category]; done) | rfl
theorem ef_c1_3 (m : MethodId) (x0 : Addr) : entryFrame m #[(.ref x0), (.int (0 : Int32)), (.int (3 : Int32))] 6 = mkF m 0 #[.val (.ref x0), .val (.int (0 : Int32)), .val (.int (3 : Int32)), .unset, .unset, .unset] [] := by first | (simp [entryFrame, mkF, argsToLocals, Value.category]; done) | rfl
theorem ef_c1_4 (m : MethodId) (x0 : Addr) : entryFrame m #[(.ref x0), (.int (0 : Int32)), (.int (4 : Int32))] 6 = mkF m 0 #[.val (.ref x0), .val (.int (0 : Int32)), .val (.int (4 : Int32)), .unset, .unset, .unset] [] := by first | (simp [entryFrame, mkF, argsToLocals, Value.category]; done) | rfl
theorem ef_cal_1 (m : MethodId) (x0 : Addr) : entryFrame m #[(.ref x0), (.int (1 : Int32))] 2 = mkF m 0 #[.val (.ref x0), .val (.int (1 : Int32))] [] := by first | (simp [entryFrame, mkF, argsToLocals, Value.category]; done) | rfl
theorem ef_cal_2 (m : MethodId) (x0 : Addr) : entryFrame m #[(.ref x0), (.int (2 : Int32))] 2 = mkF m 0 #[.val (.ref x0), .val (.int (2 : Int32))] [] := by first | (simp [entryFrame, mkF, argsToLocals, Value.category]; done) | rfl
theorem ef_cal_3 (m : MethodId) (x0 : Addr) : entryFrame m #[(.ref x0), (.int (3 : Int32))] 2 = mkF m 0 #[.val (.ref x0), .val (.int (3 : Int32))] [] := by first | (simp [entryFrame, mkF, argsToLocals, Value.category]; done) | rfl
theorem ef_cal_4 (m : MethodId) (x0 : Addr) : entryFrame m #[(.ref x0), (.int (4 : Int32))] 2 = mkF m 0 #[.val (.ref x0), .val (.int (4 : Int32))] [] := by first | (simp [entryFrame, mkF, argsToLocals, Value.category]; done) | rfl
theorem ef_i4_0 (m : MethodId) (x0 : Addr) (x1 : Addr) : entryFrame m #[(.ref x0), (.ref x1), (.int (0 : Int32)), (.int (0 : Int32)), .null] 6 = mkF m 0 #[.val (.ref x0), .val (.ref x1), .val (.int (0 : Int32)), .val (.int (0 : Int32)), .val .null, .unset] [] := by first | (simp [entryFrame, mkF, argsToLocals, Value.category]; done) | rfl
theorem ef_i1_0 (m : MethodId) (x0 : Addr) (x1 : Addr) : entryFrame m #[(.ref x0), (.ref x1)] 2 = mkF m 0 #[.val (.ref x0), .val (.ref x1)] [] := by first | (simp [entryFrame, mkF, argsToLocals, Value.category]; done) | rfl
theorem ef_i4_1 (m : MethodId) (x0 : Addr) (x1 : Addr) : entryFrame m #[(.ref x0), (.ref x1), (.int (0 : Int32)), (.int (1 : Int32)), .null] 6 = mkF m 0 #[.val (.ref x0), .val (.ref x1), .val (.int (0 : Int32)), .val (.int (1 : Int32)), .val .null, .unset] [] := by first | (simp [entryFrame, mkF, argsToLocals, Value.category]; done) | rfl
theorem ef_i1_1 (m : MethodId) (x0 : Addr) (x1 : Addr) : entryFrame m #[(.ref x0), (.ref x1)] 2 = mkF m 0 #[.val (.ref x0), .val (.ref x1)] [] := by first | (simp [entryFrame, mkF, argsToLocals, Value.category]; done) | rfl
theorem ef_i4_2 (m : MethodId) (x0 : Addr) (x1 : Addr) : entryFrame m #[(.ref x0), (.ref x1), (.int (0 : Int32)), (.int (2 : Int32)), .null] 6 = mkF m 0 #[.val (.ref x0), .val (.ref x1), .val (.int (0 : Int32)), .val (.int (2 : Int32)), .val .null, .unset] [] := by first | (simp [entryFrame, mkF, argsToLocals, Value.category]; done) | rfl
theorem ef_i1_2 (m : MethodId) (x0 : Addr) (x1 : Addr) : entryFrame m #[(.ref x0), (.ref x1)] 2 = mkF m 0 #[.val (.ref x0), .val (.ref x1)] [] := by first | (simp [entryFrame, mkF, argsToLocals, Value.category]; done) | rfl
theorem ef_i4_3 (m : MethodId) (x0 : Addr) (x1 : Addr) : entryFrame m #[(.ref x0), (.ref x1), (.int (0 : Int32)), (.int (3 : Int32)), .null] 6 = mkF m 0 #[.val (.ref x0), .val (.ref x1), .val (.int (0 : Int32)), .val (.int (3 : Int32)), .val .null, .unset] [] := by first | (simp [entryFrame, mkF, argsToLocals, Value.category]; done) | rfl
theorem ef_i1_3 (m : MethodId) (x0 : Addr) (x1 : Addr) : entryFrame m #[(.ref x0), (.ref x1)] 2 = mkF m 0 #[.val (.ref x0), .val (.ref x1)] [] := by first | (simp [entryFrame, mkF, argsToLocals, Value.category]; done) | rfl
theorem ef_i4_4 (m : MethodId) (x0 : Addr) (x1 : Addr) : entryFrame m #[(.ref x0), (.ref x1), (.int (0 : Int32)), (.int (4 : Int32)), .null] 6 = mkF m 0 #[.val (.ref x0), .val (.ref x1), .val (.int (0 : Int32)), .val (.int (4 : Int32)), .val .null, .unset] [] := by first | (simp [entryFrame, mkF, argsToLocals, Value.category]; done) | rfl
theorem ef_i1_4 (m : MethodId) (x0 : Addr) (x1 : Addr) : entryFrame m #[(.ref x0), (.ref x1)] 2 = mkF m 0 #[.val (.ref x0), .val (.ref x1)] [] := by first | (simp [entryFrame, mkF, argsToLocals, Value.category]; done) | rfl
theorem ef_pl_0 (m : MethodId) (x1 : Int32) (x2 : Int32) (x3 : Int32) : entryFrame m #[(.int (0 : Int32)), (.int x1), (.int x2), (.int x3)] 4 = mkF m 0 #[.val (.int (0 : Int32)), .val (.int x1), .val (.int x2), .val (.int x3)] [] := by first | (simp [entryFrame, mkF, argsToLocals, Value.category]; done) | rfl
theorem ef_ws_0 (m : MethodId) (x1 : Int32) (x2 : Int32) (x3 : Int32) : entryFrame m #[(.int (0 : Int32)), (.int x1), (.int x2), (.int x3)] 4 = mkF m 0 #[.val (.int (0 : Int32)), .val (.int x1), .val (.int x2), .val (.int x3)] [] := by first | (simp [entryFrame, mkF, argsToLocals, Value.category]; done) | rfl
theorem ef_pl_1 (m : MethodId) (x1 : Int32) (x2 : Int32) (x3 : Int32) : entryFrame m #[(.int (1 : Int32)), (.int x1), (.int x2), (.int x3)] 4 = mkF m 0 #[.val (.int (1 : Int32)), .val (.int x1), .val (.int x2), .val (.int x3)] [] := by first | (simp [entryFrame, mkF, argsToLocals, Value.category]; done) | rfl
theorem ef_ws_1 (m : MethodId) (x1 : Int32) (x2 : Int32) (x3 : Int32) : entryFrame m #[(.int (1 : Int32)), (.int x1), (.int x2), (.int x3)] 4 = mkF m 0 #[.val (.int (1 : Int32)), .val (.int x1), .val (.int x2), .val (.int x3)] [] := by first | (simp [entryFrame, mkF, argsToLocals, Value.category]; done) | rfl
theorem ef_pl_2 (m : MethodId) (x1 : Int32) (x2 : Int32) (x3 : Int32) : entryFrame m #[(.int (2 : Int32)), (.int x1), (.int x2), (.int x3)] 4 = mkF m 0 #[.val (.int (2 : Int32)), .val (.int x1), .val (.int x2), .val (.int x3)] [] := by first | (simp [entryFrame, mkF, argsToLocals, Value.category]; done) | rfl
theorem ef_ws_2 (m : MethodId) (x1 : Int32) (x2 : Int32) (x3 : Int32) : entryFrame m #[(.int (2 : Int32)), (.int x1), (.int x2), (.int x3)] 4 = mkF m 0 #[.val (.int (2 : Int32)), .val (.int x1), .val (.int x2), .val (.int x3)] [] := by first | (simp [entryFrame, mkF, argsToLocals, Value.category]; done) | rfl
theorem ef_pl_3 (m : MethodId) (x1 : Int32) (x2 : Int32) (x3 : Int32) : entryFrame m #[(.int (3 : Int32)), (.int x1), (.int x2), (.int x3)] 4 = mkF m 0 #[.val (.int (3 : Int32)), .val (.int x1), .val (.int x2), .val (.int x3)] [] := by first | (simp [entryFrame, mkF, argsToLocals, Value.category]; done) | rfl
theorem ef_ws_3 (m : MethodId) (x1 : Int32) (x2 : Int32) (x3 : Int32) : entryFrame m #[(.int (3 : Int32)), (.int x1), (.int x2), (.int x3)] 4 = mkF m 0 #[.val (.int (3 : Int32)), .val (.int x1), .val (.int x2), .val (.int x3)] [] := by first | (simp [entryFrame, mkF, argsToLocals, Value.category]; done) | rfl
theorem ef_cl_1 (m : MethodId)  : entryFrame m #[(.int (0 : Int32)), (.int (1 : Int32))] 2 = mkF m 0 #[.val (.int (0 : Int32)), .val (.int (1 : Int32))] [] := by first | (simp [entryFrame, mkF, argsToLocals, Value.category]; done) | rfl
theorem ef_mi_1 (m : MethodId)  : entryFrame m #[(.int (2 : Int32)), (.int (1 : Int32))] 2 = mkF m 0 #[.val (.int (2 : Int32)), .val (.int (1 : Int32))] [] := by first | (simp [entryFrame, mkF, argsToLocals, Value.category]; done) | rfl
theorem ef_cl_2 (m : MethodId)  : entryFrame m #[(.int (0 : Int32)), (.int (2 : Int32))] 2 = mkF m 0 #[.val (.int (0 : Int32)), .val (.int (2 : Int32))] [] := by first | (simp [entryFrame, mkF, argsToLocals, Value.category]; done) | rfl
theorem ef_mi_2 (m : MethodId)  : entryFrame m #[(.int (3 : Int32)), (.int (2 : Int32))] 2 = mkF m 0 #[.val (.int (3 : Int32)), .val (.int (2 : Int32))] [] := by first | (simp [entryFrame, mkF, argsToLocals, Value.category]; done) | rfl
theorem ef_cl_3 (m : MethodId)  : entryFrame m #[(.int (0 : Int32)), (.int (3 : Int32))] 2 = mkF m 0 #[.val (.int (0 : Int32)), .val (.int (3 : Int32))] [] := by first | (simp [entryFrame, mkF, argsToLocals, Value.category]; done) | rfl
theorem ef_mi_3 (m : MethodId)  : entryFrame m #[(.int (4 : Int32)), (.int (3 : Int32))] 2 = mkF m 0 #[.val (.int (4 : Int32)), .val (.int (3 : Int32))] [] := by first | (simp [entryFrame, mkF, argsToLocals, Value.category]; done) | rfl
theorem ef_copyOfRangeByte_1 (m : MethodId) (x0 : Addr) : entryFrame m #[(.ref x0), (.int (0 : Int32)), (.int (1 : Int32))] 5 = mkF m 0 #[.val (.ref x0), .val (.int (0 : Int32)), .val (.int (1 : Int32)), .unset, .unset] [] := by first | (simp [entryFrame, mkF, argsToLocals, Value.category]; done) | rfl
theorem ef_copyOfRangeByte_2 (m : MethodId) (x0 : Addr) : entryFrame m #[(.ref x0), (.int (0 : Int32)), (.int (2 : Int32))] 5 = mkF m 0 #[.val (.ref x0), .val (.int (0 : Int32)), .val (.int (2 : Int32)), .unset, .unset] [] := by first | (simp [entryFrame, mkF, argsToLocals, Value.category]; done) | rfl
theorem ef_copyOfRangeByte_3 (m : MethodId) (x0 : Addr) : entryFrame m #[(.ref x0), (.int (0 : Int32)), (.int (3 : Int32))] 5 = mkF m 0 #[.val (.ref x0), .val (.int (0 : Int32)), .val (.int (3 : Int32)), .unset, .unset] [] := by first | (simp [entryFrame, mkF, argsToLocals, Value.category]; done) | rfl
theorem ef_copyOfRange_1 (m : MethodId) (x0 : Addr) : entryFrame m #[(.ref x0), (.int (0 : Int32)), (.int (1 : Int32))] 3 = mkF m 0 #[.val (.ref x0), .val (.int (0 : Int32)), .val (.int (1 : Int32))] [] := by first | (simp [entryFrame, mkF, argsToLocals, Value.category]; done) | rfl
theorem ef_copyOfRange_2 (m : MethodId) (x0 : Addr) : entryFrame m #[(.ref x0), (.int (0 : Int32)), (.int (2 : Int32))] 3 = mkF m 0 #[.val (.ref x0), .val (.int (0 : Int32)), .val (.int (2 : Int32))] [] := by first | (simp [entryFrame, mkF, argsToLocals, Value.category]; done) | rfl
theorem ef_copyOfRange_3 (m : MethodId) (x0 : Addr) : entryFrame m #[(.ref x0), (.int (0 : Int32)), (.int (3 : Int32))] 3 = mkF m 0 #[.val (.ref x0), .val (.int (0 : Int32)), .val (.int (3 : Int32))] [] := by first | (simp [entryFrame, mkF, argsToLocals, Value.category]; done) | rfl
theorem ef_ibb (m : MethodId) (x0 : Addr) (x1 : Addr) : entryFrame m #[(.ref x0), (.ref x1), (.int (0 : Int32))] 3 = mkF m 0 #[.val (.ref x0), .val (.ref x1), .val (.int (0 : Int32))] [] := by first | (simp [entryFrame, mkF, argsToLocals, Value.category]; done) | rfl
theorem ef_ns_0 (m : MethodId) (x0 : Addr) : entryFrame m #[(.ref x0), (.int (0 : Int32)), (.int (0 : Int32))] 3 = mkF m 0 #[.val (.ref x0), .val (.int (0 : Int32)), .val (.int (0 : Int32))] [] := by first | (simp [entryFrame, mkF, argsToLocals, Value.category]; done) | rfl
theorem ef_ns_1 (m : MethodId) (x0 : Addr) : entryFrame m #[(.ref x0), (.int (0 : Int32)), (.int (1 : Int32))] 3 = mkF m 0 #[.val (.ref x0), .val (.int (0 : Int32)), .val (.int (1 : Int32))] [] := by first | (simp [entryFrame, mkF, argsToLocals, Value.category]; done) | rfl
theorem ef_ns_2 (m : MethodId) (x0 : Addr) : entryFrame m #[(.ref x0), (.int (0 : Int32)), (.int (2 : Int32))] 3 = mkF m 0 #[.val (.ref x0), .val (.int (0 : Int32)), .val (.int (2 : Int32))] [] := by first | (simp [entryFrame, mkF, argsToLocals, Value.category]; done) | rfl
theorem ef_ns_3 (m : MethodId) (x0 : Addr) : entryFrame m #[(.ref x0), (.int (0 : Int32)), (.int (3 : Int32))] 3 = mkF m 0 #[.val (.ref x0), .val (.int (0 : Int32)), .val (.int (3 : Int32))] [] := by first | (simp [entryFrame, mkF, argsToLocals, Value.category]; done) | rfl
theorem ef_su_0 (m : MethodId) (x0 : Addr) : entryFrame m #[(.ref x0), (.int (0 : Int32)), (.int (0 : Int32))] 5 = mkF m 0 #[.val (.ref x0), .val (.int (0 : Int32)), .val (.int (0 : Int32)), .unset, .unset] [] := by first | (simp [entryFrame, mkF, argsToLocals, Value.category]; done) | rfl
theorem ef_su_1 (m : MethodId) (x0 : Addr) : entryFrame m #[(.ref x0), (.int (0 : Int32)), (.int (1 : Int32))] 5 = mkF m 0 #[.val (.ref x0), .val (.int (0 : Int32)), .val (.int (1 : Int32)), .unset, .unset] [] := by first | (simp [entryFrame, mkF, argsToLocals, Value.category]; done) | rfl
theorem ef_su_2 (m : MethodId) (x0 : Addr) : entryFrame m #[(.ref x0), (.int (0 : Int32)), (.int (2 : Int32))] 5 = mkF m 0 #[.val (.ref x0), .val (.int (0 : Int32)), .val (.int (2 : Int32)), .unset, .unset] [] := by first | (simp [entryFrame, mkF, argsToLocals, Value.category]; done) | rfl
theorem ef_su_3 (m : MethodId) (x0 : Addr) : entryFrame m #[(.ref x0), (.int (0 : Int32)), (.int (3 : Int32))] 5 = mkF m 0 #[.val (.ref x0), .val (.int (0 : Int32)), .val (.int (3 : Int32)), .unset, .unset] [] := by first | (simp [entryFrame, mkF, argsToLocals, Value.category]; done) | rfl
theorem ef_di_0 (m : MethodId) (x0 : Addr) : entryFrame m #[(.ref x0)] 1 = mkF m 0 #[.val (.ref x0)] [] := by first | (simp [entryFrame, mkF, argsToLocals, Value.category]; done) | rfl
theorem ef_di_1 (m : MethodId) (x0 : Addr) : entryFrame m #[(.ref x0)] 1 = mkF m 0 #[.val (.ref x0)] [] := by first | (simp [entryFrame, mkF, argsToLocals, Value.category]; done) | rfl
theorem ef_di_2 (m : MethodId) (x0 : Addr) : entryFrame m #[(.ref x0)] 1 = mkF m 0 #[.val (.ref x0)] [] := by first | (simp [entryFrame, mkF, argsToLocals, Value.category]; done) | rfl
theorem ef_di_3 (m : MethodId) (x0 : Addr) : entryFrame m #[(.ref x0)] 1 = mkF m 0 #[.val (.ref x0)] [] := by first | (simp [entryFrame, mkF, argsToLocals, Value.category]; done) | rfl
theorem ef_le_0 (m : MethodId) (x0 : Addr) (x1 : Addr) : entryFrame m #[(.ref x0), (.ref x1)] 3 = mkF m 0 #[.val (.ref x0), .val (.ref x1), .unset] [] := by first | (simp [entryFrame, mkF, argsToLocals, Value.category]; done) | rfl
theorem ef_le_1 (m : MethodId) (x0 : Addr) (x1 : Addr) : entryFrame m #[(.ref x0), (.ref x1)] 3 = mkF m 0 #[.val (.ref x0), .val (.ref x1), .unset] [] := by first | (simp [entryFrame, mkF, argsToLocals, Value.category]; done) | rfl
theorem ef_le_2 (m : MethodId) (x0 : Addr) (x1 : Addr) : entryFrame m #[(.ref x0), (.ref x1)] 3 = mkF m 0 #[.val (.ref x0), .val (.ref x1), .unset] [] := by first | (simp [entryFrame, mkF, argsToLocals, Value.category]; done) | rfl
theorem ef_le_3 (m : MethodId) (x0 : Addr) (x1 : Addr) : entryFrame m #[(.ref x0), (.ref x1)] 3 = mkF m 0 #[.val (.ref x0), .val (.ref x1), .unset] [] := by first | (simp [entryFrame, mkF, argsToLocals, Value.category]; done) | rfl
theorem ef_eq_0 (m : MethodId) (x0 : Addr) (x1 : Addr) : entryFrame m #[(.ref x0), (.ref x1)] 3 = mkF m 0 #[.val (.ref x0), .val (.ref x1), .unset] [] := by first | (simp [entryFrame, mkF, argsToLocals, Value.category]; done) | rfl
theorem ef_eq_1 (m : MethodId) (x0 : Addr) (x1 : Addr) : entryFrame m #[(.ref x0), (.ref x1)] 3 = mkF m 0 #[.val (.ref x0), .val (.ref x1), .unset] [] := by first | (simp [entryFrame, mkF, argsToLocals, Value.category]; done) | rfl
theorem ef_eq_2 (m : MethodId) (x0 : Addr) (x1 : Addr) : entryFrame m #[(.ref x0), (.ref x1)] 3 = mkF m 0 #[.val (.ref x0), .val (.ref x1), .unset] [] := by first | (simp [entryFrame, mkF, argsToLocals, Value.category]; done) | rfl
theorem ef_eq_3 (m : MethodId) (x0 : Addr) (x1 : Addr) : entryFrame m #[(.ref x0), (.ref x1)] 3 = mkF m 0 #[.val (.ref x0), .val (.ref x1), .unset] [] := by first | (simp [entryFrame, mkF, argsToLocals, Value.category]; done) | rfl
theorem ef_0 (m : MethodId) (x0 : Int32) (x1 : Int32) (x2 : Int32) (x3 : Int32) : entryFrame m #[(.int x0), (.int x1), (.int x2), (.int x3)] maxLocals = mkF m 0 #[.val (.int x0), .val (.int x1), .val (.int x2), .val (.int x3), .unset, .unset, .unset, .unset, .unset, .unset, .unset] [] := by first | (simp [entryFrame, mkF, argsToLocals, Value.category, maxLocals]; done) | rfl
set_option maxRecDepth 65536 in
set_option maxHeartbeats 40000000 in
theorem rmcoder_0 (l : Launch) (Z : State) (a0 : Array Value) (hw : ∀ d ∈ tables_1, d.before a0 Z = true) (x0 : Addr) (h0 : Heap) {ks : Int32} {fm : Value} (hks : ¬ ks = 0) (hfm : fm.isRef = true) (CS : Sta Z Z.heap "java/lang/String" "COMPACT_STRINGS" "Z" (.int ks)) (FS : Sta Z Z.heap "jdk/internal/util/Preconditions" "SIOOBE_FORMATTER" "Ljava/util/function/BiFunction;" fm) (O : Ext Z.heap h0) {b1 : Addr} {k1 : ClassId} (E : Exa Z h0 x0 "java/lang/String") (Fc : Fld Z h0 x0 "java/lang/String" "coder" "B" (.int 0)) (Fv : Fld Z h0 x0 "java/lang/String" "value" "[B" (.ref b1)) (Vb : Arv Z h0 b1 k1 .byte (0 : Int32) [] (.int 0)) :
    OwnMet l Z (⟨"java/lang/String", "coder", "()B"⟩ : MethodName) jdk_42_method_152_code 1 (some .byte) [] ({ frames := 0, cells := 0, slots := 0, locals := 0 } : Room) #[(.ref x0)] h0 (fun v h L => v = some (.int (0 : Int32)) ∧ L = [] ∧ h = h0) := by
  refine own_body (plainFor_of_name pn_0) (fun m => ef_coder_0 m x0) ?_
  intro p e s m below meth c s₁ X0 hx hby hml hown hnm hret hlk hZ e0
  replace hown : s.vm.findClass "java/lang/String" = some m.cls := hown
  replace hml : c.maxLocals = 1 := hml
  show Ends p.tables e below _ (s₁.setTop (mkF m 0 #[.val (.ref x0)] []))
  refine own_getstatic X0 hx hby hZ hown (host := "") (Or.inl (hw _ tw_29)) Via.refl e0 (CS.ext O) d11_0 rfl (fun T1 X1 e1 => ?_)
  refine own_if_eq X1 hx hby d11_3 (pcY := 13) (pcN := 6) (by decide) rfl (fun (hc2 : ks = (0 : Int32)) => False.elim (by exact hks hc2)) (fun (hc2 : ¬ ks = (0 : Int32)) => ?_)
  refine own_aloadN X1 hx hby d11_6 rfl rfl rfl ?_
  refine own_getfield X1 hx hby hZ hown (host := "") (Or.inl (hw _ tw_25)) Via.refl e1 Fc d11_7 rfl (fun T3 X3 e3 => ?_)
  refine own_goto X3 hx hby d11_10 (pc' := 14) (by decide) ?_
  refine own_ret X3 hx hby hret hlk d11_14 (.int (0 : Int32)) rfl (Or.inl ⟨rfl, by simp, _, rfl⟩) (by decide) (by decide) ?_
  exact ⟨rfl, rfl, e3⟩
set_option maxRecDepth 65536 in
set_option maxHeartbeats 40000000 in
theorem rmisLatin1_0 (l : Launch) (Z : State) (a0 : Array Value) (hw : ∀ d ∈ tables_1, d.before a0 Z = true) (x0 : Addr) (h0 : Heap) {ks : Int32} {fm : Value} (hks : ¬ ks = 0) (hfm : fm.isRef = true) (CS : Sta Z Z.heap "java/lang/String" "COMPACT_STRINGS" "Z" (.int ks)) (FS : Sta Z Z.heap "jdk/internal/util/Preconditions" "SIOOBE_FORMATTER" "Ljava/util/function/BiFunction;" fm) (O : Ext Z.heap h0) {b1 : Addr} {k1 : ClassId} (E : Exa Z h0 x0 "java/lang/String") (Fc : Fld Z h0 x0 "java/lang/String" "coder" "B" (.int 0)) (Fv : Fld Z h0 x0 "java/lang/String" "value" "[B" (.ref b1)) (Vb : Arv Z h0 b1 k1 .byte (0 : Int32) [] (.int 0)) :
    OwnMet l Z (⟨"java/lang/String", "isLatin1", "()Z"⟩ : MethodName) jdk_42_method_154_code 1 (some .boolean) [] ({ frames := 0, cells := 0, slots := 0, locals := 0 } : Room) #[(.ref x0)] h0 (fun v h L => v = some (.int (1 : Int32)) ∧ L = [] ∧ h = h0) := by
  refine own_body (plainFor_of_name pn_0) (fun m => ef_isLatin1_0 m x0) ?_
  intro p e s m below meth c s₁ X0 hx hby hml hown hnm hret hlk hZ e0
  replace hown : s.vm.findClass "java/lang/String" = some m.cls := hown
  replace hml : c.maxLocals = 1 := hml
  show Ends p.tables e below _ (s₁.setTop (mkF m 0 #[.val (.ref x0)] []))
  refine own_getstatic X0 hx hby hZ hown (host := "") (Or.inl (hw _ tw_29)) Via.refl e0 (CS.ext O) d15_0 rfl (fun T4 X4 e4 => ?_)
  refine own_if_eq X4 hx hby d15_3 (pcY := 17) (pcN := 6) (by decide) rfl (fun (hc5 : ks = (0 : Int32)) => False.elim (by exact hks hc5)) (fun (hc5 : ¬ ks = (0 : Int32)) => ?_)
  refine own_aloadN X4 hx hby d15_6 rfl rfl rfl ?_
  refine own_getfield X4 hx hby hZ hown (host := "") (Or.inl (hw _ tw_25)) Via.refl e4 Fc d15_7 rfl (fun T6 X6 e6 => ?_)
  refine own_if_ne X6 hx hby d15_10 (pcY := 17) (pcN := 13) (by decide) rfl (fun (hc7 : ¬ (0 : Int32) = (0 : Int32)) => False.elim (by exact absurd hc7 (by decide))) (fun (hc7 : (0 : Int32) = (0 : Int32)) => ?_)
  refine own_iconst X6 hx hby d15_13 rfl (1 : Int32) rfl ?_
  refine own_goto X6 hx hby d15_14 (pc' := 18) (by decide) ?_
  refine own_ret X6 hx hby hret hlk d15_18 (.int (1 : Int32)) rfl (Or.inl ⟨rfl, by simp, _, rfl⟩) (by decide) (by decide) ?_
  exact ⟨rfl, rfl, e6⟩
set_option maxRecDepth 65536 in
set_option maxHeartbeats 40000000 in
theorem rmlength_0 (l : Launch) (Z : State) (a0 : Array Value) (hw : ∀ d ∈ tables_1, d.before a0 Z = true) (x0 : Addr) (h0 : Heap) {ks : Int32} {fm : Value} (hks : ¬ ks = 0) (hfm : fm.isRef = true) (CS : Sta Z Z.heap "java/lang/String" "COMPACT_STRINGS" "Z" (.int ks)) (FS : Sta Z Z.heap "jdk/internal/util/Preconditions" "SIOOBE_FORMATTER" "Ljava/util/function/BiFunction;" fm) (O : Ext Z.heap h0) {b1 : Addr} {k1 : ClassId} (E : Exa Z h0 x0 "java/lang/String") (Fc : Fld Z h0 x0 "java/lang/String" "coder" "B" (.int 0)) (Fv : Fld Z h0 x0 "java/lang/String" "value" "[B" (.ref b1)) (Vb : Arv Z h0 b1 k1 .byte (0 : Int32) [] (.int 0)) :
    OwnMet l Z (⟨"java/lang/String", "length", "()I"⟩ : MethodName) jdk_42_method_54_code 1 (some .int) [] ({ frames := 1, cells := 0, slots := 0, locals := 13 } : Room) #[(.ref x0)] h0 (fun v h L => v = some (.int (0 : Int32)) ∧ L = [] ∧ h = h0) := by
  refine own_body (plainFor_of_name pn_0) (fun m => ef_length_0 m x0) ?_
  intro p e s m below meth c s₁ X0 hx hby hml hown hnm hret hlk hZ e0
  replace hown : s.vm.findClass "java/lang/String" = some m.cls := hown
  replace hml : c.maxLocals = 1 := hml
  show Ends p.tables e below _ (s₁.setTop (mkF m 0 #[.val (.ref x0)] []))
  refine own_aloadN X0 hx hby d10_0 rfl rfl rfl ?_
  refine own_getfield X0 hx hby hZ hown (host := "") (Or.inl (hw _ tw_24)) Via.refl e0 Fv d10_1 rfl (fun T8 X8 e8 => ?_)
  refine own_arraylength X8 hx hby hZ e8 Vb d10_4 rfl ?_
  refine own_aloadN X8 hx hby d10_5 rfl rfl rfl ?_
  refine own_virtual X8 hx hby hZ (Cn := "java/lang/String") (a := x0) (argsL := []) (rest := [(.int (0 : Int32))]) hown (hw _ tw_49) (hw _ tw_50) (hw _ tw_52) (hw _ tw_51) (hw _ tw_6) (hw _ tw_53) (by decide) (rmcoder_0 l Z a0 hw x0 h0 hks hfm CS FS O E Fc Fv Vb) E e8 (by rw [hml]; rfl) pd_0 rfl (by decide) (W := 1) (Nat.le_refl _) (by decide) (by decide) (by decide) d10_6 rfl rfl (fun v9 T9 L9 X9 hQ9 => ?_)
  obtain ⟨rfl, rfl, e9⟩ := hQ9
  show Ends p.tables e below _ (T9.setTop (mkF m 9 #[.val (.ref x0)] [(.int (0 : Int32)), (.int (0 : Int32))]))
  refine own_ishr X9 hx hby d10_9 rfl ?_
  refine own_ret X9 hx hby hret hlk d10_10 (.int (0 : Int32)) rfl (Or.inl ⟨rfl, by simp, _, rfl⟩) (by decide) (by decide) ?_
  exact ⟨rfl, rfl, e9⟩
set_option maxRecDepth 65536 in
set_option maxHeartbeats 40000000 in
theorem rmcoder_1 (l : Launch) (Z : State) (a0 : Array Value) (hw : ∀ d ∈ tables_1, d.before a0 Z = true) (x0 : Addr) (h0 : Heap) {ks : Int32} {fm : Value} (hks : ¬ ks = 0) (hfm : fm.isRef = true) (CS : Sta Z Z.heap "java/lang/String" "COMPACT_STRINGS" "Z" (.int ks)) (FS : Sta Z Z.heap "jdk/internal/util/Preconditions" "SIOOBE_FORMATTER" "Ljava/util/function/BiFunction;" fm) (O : Ext Z.heap h0) {b1 : Addr} {k1 : ClassId} {z0 : Int32} (E : Exa Z h0 x0 "java/lang/String") (Fc : Fld Z h0 x0 "java/lang/String" "coder" "B" (.int 0)) (Fv : Fld Z h0 x0 "java/lang/String" "value" "[B" (.ref b1)) (Vb : Arv Z h0 b1 k1 .byte (1 : Int32) [(.int z0)] (.int 0)) :
    OwnMet l Z (⟨"java/lang/String", "coder", "()B"⟩ : MethodName) jdk_42_method_152_code 1 (some .byte) [] ({ frames := 0, cells := 0, slots := 0, locals := 0 } : Room) #[(.ref x0)] h0 (fun v h L => v = some (.int (0 : Int32)) ∧ L = [] ∧ h = h0) := by
  refine own_body (plainFor_of_name pn_0) (fun m => ef_coder_1 m x0) ?_
  intro p e s m below meth c s₁ X0 hx hby hml hown hnm hret hlk hZ e0
  replace hown : s.vm.findClass "java/lang/String" = some m.cls := hown
  replace hml : c.maxLocals = 1 := hml
  show Ends p.tables e below _ (s₁.setTop (mkF m 0 #[.val (.ref x0)] []))
  refine own_getstatic X0 hx hby hZ hown (host := "") (Or.inl (hw _ tw_29)) Via.refl e0 (CS.ext O) d11_0 rfl (fun T10 X10 e10 => ?_)
  refine own_if_eq X10 hx hby d11_3 (pcY := 13) (pcN := 6) (by decide) rfl (fun (hc11 : ks = (0 : Int32)) => False.elim (by exact hks hc11)) (fun (hc11 : ¬ ks = (0 : Int32)) => ?_)
  refine own_aloadN X10 hx hby d11_6 rfl rfl rfl ?_
  refine own_getfield X10 hx hby hZ hown (host := "") (Or.inl (hw _ tw_25)) Via.refl e10 Fc d11_7 rfl (fun T12 X12 e12 => ?_)
  refine own_goto X12 hx hby d11_10 (pc' := 14) (by decide) ?_
  refine own_ret X12 hx hby hret hlk d11_14 (.int (0 : Int32)) rfl (Or.inl ⟨rfl, by simp, _, rfl⟩) (by decide) (by decide) ?_
  exact ⟨rfl, rfl, e12⟩
set_option maxRecDepth 65536 in
set_option maxHeartbeats 40000000 in
theorem rmisLatin1_1 (l : Launch) (Z : State) (a0 : Array Value) (hw : ∀ d ∈ tables_1, d.before a0 Z = true) (x0 : Addr) (h0 : Heap) {ks : Int32} {fm : Value} (hks : ¬ ks = 0) (hfm : fm.isRef = true) (CS : Sta Z Z.heap "java/lang/String" "COMPACT_STRINGS" "Z" (.int ks)) (FS : Sta Z Z.heap "jdk/internal/util/Preconditions" "SIOOBE_FORMATTER" "Ljava/util/function/BiFunction;" fm) (O : Ext Z.heap h0) {b1 : Addr} {k1 : ClassId} {z0 : Int32} (E : Exa Z h0 x0 "java/lang/String") (Fc : Fld Z h0 x0 "java/lang/String" "coder" "B" (.int 0)) (Fv : Fld Z h0 x0 "java/lang/String" "value" "[B" (.ref b1)) (Vb : Arv Z h0 b1 k1 .byte (1 : Int32) [(.int z0)] (.int 0)) :
    OwnMet l Z (⟨"java/lang/String", "isLatin1", "()Z"⟩ : MethodName) jdk_42_method_154_code 1 (some .boolean) [] ({ frames := 0, cells := 0, slots := 0, locals := 0 } : Room) #[(.ref x0)] h0 (fun v h L => v = some (.int (1 : Int32)) ∧ L = [] ∧ h = h0) := by
  refine own_body (plainFor_of_name pn_0) (fun m => ef_isLatin1_1 m x0) ?_
  intro p e s m below meth c s₁ X0 hx hby hml hown hnm hret hlk hZ e0
  replace hown : s.vm.findClass "java/lang/String" = some m.cls := hown
  replace hml : c.maxLocals = 1 := hml
  show Ends p.tables e below _ (s₁.setTop (mkF m 0 #[.val (.ref x0)] []))
  refine own_getstatic X0 hx hby hZ hown (host := "") (Or.inl (hw _ tw_29)) Via.refl e0 (CS.ext O) d15_0 rfl (fun T13 X13 e13 => ?_)
  refine own_if_eq X13 hx hby d15_3 (pcY := 17) (pcN := 6) (by decide) rfl (fun (hc14 : ks = (0 : Int32)) => False.elim (by exact hks hc14)) (fun (hc14 : ¬ ks = (0 : Int32)) => ?_)
  refine own_aloadN X13 hx hby d15_6 rfl rfl rfl ?_
  refine own_getfield X13 hx hby hZ hown (host := "") (Or.inl (hw _ tw_25)) Via.refl e13 Fc d15_7 rfl (fun T15 X15 e15 => ?_)
  refine own_if_ne X15 hx hby d15_10 (pcY := 17) (pcN := 13) (by decide) rfl (fun (hc16 : ¬ (0 : Int32) = (0 : Int32)) => False.elim (by exact absurd hc16 (by decide))) (fun (hc16 : (0 : Int32) = (0 : Int32)) => ?_)
  refine own_iconst X15 hx hby d15_13 rfl (1 : Int32) rfl ?_
  refine own_goto X15 hx hby d15_14 (pc' := 18) (by decide) ?_
  refine own_ret X15 hx hby hret hlk d15_18 (.int (1 : Int32)) rfl (Or.inl ⟨rfl, by simp, _, rfl⟩) (by decide) (by decide) ?_
  exact ⟨rfl, rfl, e15⟩
set_option maxRecDepth 65536 in
set_option maxHeartbeats 40000000 in
theorem rmlength_1 (l : Launch) (Z : State) (a0 : Array Value) (hw : ∀ d ∈ tables_1, d.before a0 Z = true) (x0 : Addr) (h0 : Heap) {ks : Int32} {fm : Value} (hks : ¬ ks = 0) (hfm : fm.isRef = true) (CS : Sta Z Z.heap "java/lang/String" "COMPACT_STRINGS" "Z" (.int ks)) (FS : Sta Z Z.heap "jdk/internal/util/Preconditions" "SIOOBE_FORMATTER" "Ljava/util/function/BiFunction;" fm) (O : Ext Z.heap h0) {b1 : Addr} {k1 : ClassId} {z0 : Int32} (E : Exa Z h0 x0 "java/lang/String") (Fc : Fld Z h0 x0 "java/lang/String" "coder" "B" (.int 0)) (Fv : Fld Z h0 x0 "java/lang/String" "value" "[B" (.ref b1)) (Vb : Arv Z h0 b1 k1 .byte (1 : Int32) [(.int z0)] (.int 0)) :
    OwnMet l Z (⟨"java/lang/String", "length", "()I"⟩ : MethodName) jdk_42_method_54_code 1 (some .int) [] ({ frames := 1, cells := 0, slots := 0, locals := 13 } : Room) #[(.ref x0)] h0 (fun v h L => v = some (.int (1 : Int32)) ∧ L = [] ∧ h = h0) := by
  refine own_body (plainFor_of_name pn_0) (fun m => ef_length_1 m x0) ?_
  intro p e s m below meth c s₁ X0 hx hby hml hown hnm hret hlk hZ e0
  replace hown : s.vm.findClass "java/lang/String" = some m.cls := hown
  replace hml : c.maxLocals = 1 := hml
  show Ends p.tables e below _ (s₁.setTop (mkF m 0 #[.val (.ref x0)] []))
  refine own_aloadN X0 hx hby d10_0 rfl rfl rfl ?_
  refine own_getfield X0 hx hby hZ hown (host := "") (Or.inl (hw _ tw_24)) Via.refl e0 Fv d10_1 rfl (fun T17 X17 e17 => ?_)
  refine own_arraylength X17 hx hby hZ e17 Vb d10_4 rfl ?_
  refine own_aloadN X17 hx hby d10_5 rfl rfl rfl ?_
  refine own_virtual X17 hx hby hZ (Cn := "java/lang/String") (a := x0) (argsL := []) (rest := [(.int (1 : Int32))]) hown (hw _ tw_49) (hw _ tw_50) (hw _ tw_52) (hw _ tw_51) (hw _ tw_6) (hw _ tw_53) (by decide) (rmcoder_1 l Z a0 hw x0 h0 hks hfm CS FS O E Fc Fv Vb) E e17 (by rw [hml]; rfl) pd_0 rfl (by decide) (W := 1) (Nat.le_refl _) (by decide) (by decide) (by decide) d10_6 rfl rfl (fun v18 T18 L18 X18 hQ18 => ?_)
  obtain ⟨rfl, rfl, e18⟩ := hQ18
  show Ends p.tables e below _ (T18.setTop (mkF m 9 #[.val (.ref x0)] [(.int (0 : Int32)), (.int (1 : Int32))]))
  refine own_ishr X18 hx hby d10_9 rfl ?_
  refine own_ret X18 hx hby hret hlk d10_10 (.int (1 : Int32)) rfl (Or.inl ⟨rfl, by simp, _, rfl⟩) (by decide) (by decide) ?_
  exact ⟨rfl, rfl, e18⟩
set_option maxRecDepth 65536 in
set_option maxHeartbeats 40000000 in
theorem rmcoder_2 (l : Launch) (Z : State) (a0 : Array Value) (hw : ∀ d ∈ tables_1, d.before a0 Z = true) (x0 : Addr) (h0 : Heap) {ks : Int32} {fm : Value} (hks : ¬ ks = 0) (hfm : fm.isRef = true) (CS : Sta Z Z.heap "java/lang/String" "COMPACT_STRINGS" "Z" (.int ks)) (FS : Sta Z Z.heap "jdk/internal/util/Preconditions" "SIOOBE_FORMATTER" "Ljava/util/function/BiFunction;" fm) (O : Ext Z.heap h0) {b1 : Addr} {k1 : ClassId} {z0 z1 : Int32} (E : Exa Z h0 x0 "java/lang/String") (Fc : Fld Z h0 x0 "java/lang/String" "coder" "B" (.int 0)) (Fv : Fld Z h0 x0 "java/lang/String" "value" "[B" (.ref b1)) (Vb : Arv Z h0 b1 k1 .byte (2 : Int32) [(.int z0), (.int z1)] (.int 0)) :
    OwnMet l Z (⟨"java/lang/String", "coder", "()B"⟩ : MethodName) jdk_42_method_152_code 1 (some .byte) [] ({ frames := 0, cells := 0, slots := 0, locals := 0 } : Room) #[(.ref x0)] h0 (fun v h L => v = some (.int (0 : Int32)) ∧ L = [] ∧ h = h0) := by
  refine own_body (plainFor_of_name pn_0) (fun m => ef_coder_2 m x0) ?_
  intro p e s m below meth c s₁ X0 hx hby hml hown hnm hret hlk hZ e0
  replace hown : s.vm.findClass "java/lang/String" = some m.cls := hown
  replace hml : c.maxLocals = 1 := hml
  show Ends p.tables e below _ (s₁.setTop (mkF m 0 #[.val (.ref x0)] []))
  refine own_getstatic X0 hx hby hZ hown (host := "") (Or.inl (hw _ tw_29)) Via.refl e0 (CS.ext O) d11_0 rfl (fun T19 X19 e19 => ?_)
  refine own_if_eq X19 hx hby d11_3 (pcY := 13) (pcN := 6) (by decide) rfl (fun (hc20 : ks = (0 : Int32)) => False.elim (by exact hks hc20)) (fun (hc20 : ¬ ks = (0 : Int32)) => ?_)
  refine own_aloadN X19 hx hby d11_6 rfl rfl rfl ?_
  refine own_getfield X19 hx hby hZ hown (host := "") (Or.inl (hw _ tw_25)) Via.refl e19 Fc d11_7 rfl (fun T21 X21 e21 => ?_)
  refine own_goto X21 hx hby d11_10 (pc' := 14) (by decide) ?_
  refine own_ret X21 hx hby hret hlk d11_14 (.int (0 : Int32)) rfl (Or.inl ⟨rfl, by simp, _, rfl⟩) (by decide) (by decide) ?_
  exact ⟨rfl, rfl, e21⟩
set_option maxRecDepth 65536 in
set_option maxHeartbeats 40000000 in
theorem rmisLatin1_2 (l : Launch) (Z : State) (a0 : Array Value) (hw : ∀ d ∈ tables_1, d.before a0 Z = true) (x0 : Addr) (h0 : Heap) {ks : Int32} {fm : Value} (hks : ¬ ks = 0) (hfm : fm.isRef = true) (CS : Sta Z Z.heap "java/lang/String" "COMPACT_STRINGS" "Z" (.int ks)) (FS : Sta Z Z.heap "jdk/internal/util/Preconditions" "SIOOBE_FORMATTER" "Ljava/util/function/BiFunction;" fm) (O : Ext Z.heap h0) {b1 : Addr} {k1 : ClassId} {z0 z1 : Int32} (E : Exa Z h0 x0 "java/lang/String") (Fc : Fld Z h0 x0 "java/lang/String" "coder" "B" (.int 0)) (Fv : Fld Z h0 x0 "java/lang/String" "value" "[B" (.ref b1)) (Vb : Arv Z h0 b1 k1 .byte (2 : Int32) [(.int z0), (.int z1)] (.int 0)) :
    OwnMet l Z (⟨"java/lang/String", "isLatin1", "()Z"⟩ : MethodName) jdk_42_method_154_code 1 (some .boolean) [] ({ frames := 0, cells := 0, slots := 0, locals := 0 } : Room) #[(.ref x0)] h0 (fun v h L => v = some (.int (1 : Int32)) ∧ L = [] ∧ h = h0) := by
  refine own_body (plainFor_of_name pn_0) (fun m => ef_isLatin1_2 m x0) ?_
  intro p e s m below meth c s₁ X0 hx hby hml hown hnm hret hlk hZ e0
  replace hown : s.vm.findClass "java/lang/String" = some m.cls := hown
  replace hml : c.maxLocals = 1 := hml
  show Ends p.tables e below _ (s₁.setTop (mkF m 0 #[.val (.ref x0)] []))
  refine own_getstatic X0 hx hby hZ hown (host := "") (Or.inl (hw _ tw_29)) Via.refl e0 (CS.ext O) d15_0 rfl (fun T22 X22 e22 => ?_)
  refine own_if_eq X22 hx hby d15_3 (pcY := 17) (pcN := 6) (by decide) rfl (fun (hc23 : ks = (0 : Int32)) => False.elim (by exact hks hc23)) (fun (hc23 : ¬ ks = (0 : Int32)) => ?_)
  refine own_aloadN X22 hx hby d15_6 rfl rfl rfl ?_
  refine own_getfield X22 hx hby hZ hown (host := "") (Or.inl (hw _ tw_25)) Via.refl e22 Fc d15_7 rfl (fun T24 X24 e24 => ?_)
  refine own_if_ne X24 hx hby d15_10 (pcY := 17) (pcN := 13) (by decide) rfl (fun (hc25 : ¬ (0 : Int32) = (0 : Int32)) => False.elim (by exact absurd hc25 (by decide))) (fun (hc25 : (0 : Int32) = (0 : Int32)) => ?_)
  refine own_iconst X24 hx hby d15_13 rfl (1 : Int32) rfl ?_
  refine own_goto X24 hx hby d15_14 (pc' := 18) (by decide) ?_
  refine own_ret X24 hx hby hret hlk d15_18 (.int (1 : Int32)) rfl (Or.inl ⟨rfl, by simp, _, rfl⟩) (by decide) (by decide) ?_
  exact ⟨rfl, rfl, e24⟩
set_option maxRecDepth 65536 in
set_option maxHeartbeats 40000000 in
theorem rmlength_2 (l : Launch) (Z : State) (a0 : Array Value) (hw : ∀ d ∈ tables_1, d.before a0 Z = true) (x0 : Addr) (h0 : Heap) {ks : Int32} {fm : Value} (hks : ¬ ks = 0) (hfm : fm.isRef = true) (CS : Sta Z Z.heap "java/lang/String" "COMPACT_STRINGS" "Z" (.int ks)) (FS : Sta Z Z.heap "jdk/internal/util/Preconditions" "SIOOBE_FORMATTER" "Ljava/util/function/BiFunction;" fm) (O : Ext Z.heap h0) {b1 : Addr} {k1 : ClassId} {z0 z1 : Int32} (E : Exa Z h0 x0 "java/lang/String") (Fc : Fld Z h0 x0 "java/lang/String" "coder" "B" (.int 0)) (Fv : Fld Z h0 x0 "java/lang/String" "value" "[B" (.ref b1)) (Vb : Arv Z h0 b1 k1 .byte (2 : Int32) [(.int z0), (.int z1)] (.int 0)) :
    OwnMet l Z (⟨"java/lang/String", "length", "()I"⟩ : MethodName) jdk_42_method_54_code 1 (some .int) [] ({ frames := 1, cells := 0, slots := 0, locals := 13 } : Room) #[(.ref x0)] h0 (fun v h L => v = some (.int (2 : Int32)) ∧ L = [] ∧ h = h0) := by
  refine own_body (plainFor_of_name pn_0) (fun m => ef_length_2 m x0) ?_
  intro p e s m below meth c s₁ X0 hx hby hml hown hnm hret hlk hZ e0
  replace hown : s.vm.findClass "java/lang/String" = some m.cls := hown
  replace hml : c.maxLocals = 1 := hml
  show Ends p.tables e below _ (s₁.setTop (mkF m 0 #[.val (.ref x0)] []))
  refine own_aloadN X0 hx hby d10_0 rfl rfl rfl ?_
  refine own_getfield X0 hx hby hZ hown (host := "") (Or.inl (hw _ tw_24)) Via.refl e0 Fv d10_1 rfl (fun T26 X26 e26 => ?_)
  refine own_arraylength X26 hx hby hZ e26 Vb d10_4 rfl ?_
  refine own_aloadN X26 hx hby d10_5 rfl rfl rfl ?_
  refine own_virtual X26 hx hby hZ (Cn := "java/lang/String") (a := x0) (argsL := []) (rest := [(.int (2 : Int32))]) hown (hw _ tw_49) (hw _ tw_50) (hw _ tw_52) (hw _ tw_51) (hw _ tw_6) (hw _ tw_53) (by decide) (rmcoder_2 l Z a0 hw x0 h0 hks hfm CS FS O E Fc Fv Vb) E e26 (by rw [hml]; rfl) pd_0 rfl (by decide) (W := 1) (Nat.le_refl _) (by decide) (by decide) (by decide) d10_6 rfl rfl (fun v27 T27 L27 X27 hQ27 => ?_)
  obtain ⟨rfl, rfl, e27⟩ := hQ27
  show Ends p.tables e below _ (T27.setTop (mkF m 9 #[.val (.ref x0)] [(.int (0 : Int32)), (.int (2 : Int32))]))
  refine own_ishr X27 hx hby d10_9 rfl ?_
  refine own_ret X27 hx hby hret hlk d10_10 (.int (2 : Int32)) rfl (Or.inl ⟨rfl, by simp, _, rfl⟩) (by decide) (by decide) ?_
  exact ⟨rfl, rfl, e27⟩
set_option maxRecDepth 65536 in
set_option maxHeartbeats 40000000 in
theorem rmcoder_3 (l : Launch) (Z : State) (a0 : Array Value) (hw : ∀ d ∈ tables_1, d.before a0 Z = true) (x0 : Addr) (h0 : Heap) {ks : Int32} {fm : Value} (hks : ¬ ks = 0) (hfm : fm.isRef = true) (CS : Sta Z Z.heap "java/lang/String" "COMPACT_STRINGS" "Z" (.int ks)) (FS : Sta Z Z.heap "jdk/internal/util/Preconditions" "SIOOBE_FORMATTER" "Ljava/util/function/BiFunction;" fm) (O : Ext Z.heap h0) {b1 : Addr} {k1 : ClassId} {z0 z1 z2 : Int32} (E : Exa Z h0 x0 "java/lang/String") (Fc : Fld Z h0 x0 "java/lang/String" "coder" "B" (.int 0)) (Fv : Fld Z h0 x0 "java/lang/String" "value" "[B" (.ref b1)) (Vb : Arv Z h0 b1 k1 .byte (3 : Int32) [(.int z0), (.int z1), (.int z2)] (.int 0)) :
    OwnMet l Z (⟨"java/lang/String", "coder", "()B"⟩ : MethodName) jdk_42_method_152_code 1 (some .byte) [] ({ frames := 0, cells := 0, slots := 0, locals := 0 } : Room) #[(.ref x0)] h0 (fun v h L => v = some (.int (0 : Int32)) ∧ L = [] ∧ h = h0) := by
  refine own_body (plainFor_of_name pn_0) (fun m => ef_coder_3 m x0) ?_
  intro p e s m below meth c s₁ X0 hx hby hml hown hnm hret hlk hZ e0
  replace hown : s.vm.findClass "java/lang/String" = some m.cls := hown
  replace hml : c.maxLocals = 1 := hml
  show Ends p.tables e below _ (s₁.setTop (mkF m 0 #[.val (.ref x0)] []))
  refine own_getstatic X0 hx hby hZ hown (host := "") (Or.inl (hw _ tw_29)) Via.refl e0 (CS.ext O) d11_0 rfl (fun T28 X28 e28 => ?_)
  refine own_if_eq X28 hx hby d11_3 (pcY := 13) (pcN := 6) (by decide) rfl (fun (hc29 : ks = (0 : Int32)) => False.elim (by exact hks hc29)) (fun (hc29 : ¬ ks = (0 : Int32)) => ?_)
  refine own_aloadN X28 hx hby d11_6 rfl rfl rfl ?_
  refine own_getfield X28 hx hby hZ hown (host := "") (Or.inl (hw _ tw_25)) Via.refl e28 Fc d11_7 rfl (fun T30 X30 e30 => ?_)
  refine own_goto X30 hx hby d11_10 (pc' := 14) (by decide) ?_
  refine own_ret X30 hx hby hret hlk d11_14 (.int (0 : Int32)) rfl (Or.inl ⟨rfl, by simp, _, rfl⟩) (by decide) (by decide) ?_
  exact ⟨rfl, rfl, e30⟩
set_option maxRecDepth 65536 in
set_option maxHeartbeats 40000000 in
theorem rmisLatin1_3 (l : Launch) (Z : State) (a0 : Array Value) (hw : ∀ d ∈ tables_1, d.before a0 Z = true) (x0 : Addr) (h0 : Heap) {ks : Int32} {fm : Value} (hks : ¬ ks = 0) (hfm : fm.isRef = true) (CS : Sta Z Z.heap "java/lang/String" "COMPACT_STRINGS" "Z" (.int ks)) (FS : Sta Z Z.heap "jdk/internal/util/Preconditions" "SIOOBE_FORMATTER" "Ljava/util/function/BiFunction;" fm) (O : Ext Z.heap h0) {b1 : Addr} {k1 : ClassId} {z0 z1 z2 : Int32} (E : Exa Z h0 x0 "java/lang/String") (Fc : Fld Z h0 x0 "java/lang/String" "coder" "B" (.int 0)) (Fv : Fld Z h0 x0 "java/lang/String" "value" "[B" (.ref b1)) (Vb : Arv Z h0 b1 k1 .byte (3 : Int32) [(.int z0), (.int z1), (.int z2)] (.int 0)) :
    OwnMet l Z (⟨"java/lang/String", "isLatin1", "()Z"⟩ : MethodName) jdk_42_method_154_code 1 (some .boolean) [] ({ frames := 0, cells := 0, slots := 0, locals := 0 } : Room) #[(.ref x0)] h0 (fun v h L => v = some (.int (1 : Int32)) ∧ L = [] ∧ h = h0) := by
  refine own_body (plainFor_of_name pn_0) (fun m => ef_isLatin1_3 m x0) ?_
  intro p e s m below meth c s₁ X0 hx hby hml hown hnm hret hlk hZ e0
  replace hown : s.vm.findClass "java/lang/String" = some m.cls := hown
  replace hml : c.maxLocals = 1 := hml
  show Ends p.tables e below _ (s₁.setTop (mkF m 0 #[.val (.ref x0)] []))
  refine own_getstatic X0 hx hby hZ hown (host := "") (Or.inl (hw _ tw_29)) Via.refl e0 (CS.ext O) d15_0 rfl (fun T31 X31 e31 => ?_)
  refine own_if_eq X31 hx hby d15_3 (pcY := 17) (pcN := 6) (by decide) rfl (fun (hc32 : ks = (0 : Int32)) => False.elim (by exact hks hc32)) (fun (hc32 : ¬ ks = (0 : Int32)) => ?_)
  refine own_aloadN X31 hx hby d15_6 rfl rfl rfl ?_
  refine own_getfield X31 hx hby hZ hown (host := "") (Or.inl (hw _ tw_25)) Via.refl e31 Fc d15_7 rfl (fun T33 X33 e33 => ?_)
  refine own_if_ne X33 hx hby d15_10 (pcY := 17) (pcN := 13) (by decide) rfl (fun (hc34 : ¬ (0 : Int32) = (0 : Int32)) => False.elim (by exact absurd hc34 (by decide))) (fun (hc34 : (0 : Int32) = (0 : Int32)) => ?_)
  refine own_iconst X33 hx hby d15_13 rfl (1 : Int32) rfl ?_
  refine own_goto X33 hx hby d15_14 (pc' := 18) (by decide) ?_
  refine own_ret X33 hx hby hret hlk d15_18 (.int (1 : Int32)) rfl (Or.inl ⟨rfl, by simp, _, rfl⟩) (by decide) (by decide) ?_
  exact ⟨rfl, rfl, e33⟩
set_option maxRecDepth 65536 in
set_option maxHeartbeats 40000000 in
theorem rmlength_3 (l : Launch) (Z : State) (a0 : Array Value) (hw : ∀ d ∈ tables_1, d.before a0 Z = true) (x0 : Addr) (h0 : Heap) {ks : Int32} {fm : Value} (hks : ¬ ks = 0) (hfm : fm.isRef = true) (CS : Sta Z Z.heap "java/lang/String" "COMPACT_STRINGS" "Z" (.int ks)) (FS : Sta Z Z.heap "jdk/internal/util/Preconditions" "SIOOBE_FORMATTER" "Ljava/util/function/BiFunction;" fm) (O : Ext Z.heap h0) {b1 : Addr} {k1 : ClassId} {z0 z1 z2 : Int32} (E : Exa Z h0 x0 "java/lang/String") (Fc : Fld Z h0 x0 "java/lang/String" "coder" "B" (.int 0)) (Fv : Fld Z h0 x0 "java/lang/String" "value" "[B" (.ref b1)) (Vb : Arv Z h0 b1 k1 .byte (3 : Int32) [(.int z0), (.int z1), (.int z2)] (.int 0)) :
    OwnMet l Z (⟨"java/lang/String", "length", "()I"⟩ : MethodName) jdk_42_method_54_code 1 (some .int) [] ({ frames := 1, cells := 0, slots := 0, locals := 13 } : Room) #[(.ref x0)] h0 (fun v h L => v = some (.int (3 : Int32)) ∧ L = [] ∧ h = h0) := by
  refine own_body (plainFor_of_name pn_0) (fun m => ef_length_3 m x0) ?_
  intro p e s m below meth c s₁ X0 hx hby hml hown hnm hret hlk hZ e0
  replace hown : s.vm.findClass "java/lang/String" = some m.cls := hown
  replace hml : c.maxLocals = 1 := hml
  show Ends p.tables e below _ (s₁.setTop (mkF m 0 #[.val (.ref x0)] []))
  refine own_aloadN X0 hx hby d10_0 rfl rfl rfl ?_
  refine own_getfield X0 hx hby hZ hown (host := "") (Or.inl (hw _ tw_24)) Via.refl e0 Fv d10_1 rfl (fun T35 X35 e35 => ?_)
  refine own_arraylength X35 hx hby hZ e35 Vb d10_4 rfl ?_
  refine own_aloadN X35 hx hby d10_5 rfl rfl rfl ?_
  refine own_virtual X35 hx hby hZ (Cn := "java/lang/String") (a := x0) (argsL := []) (rest := [(.int (3 : Int32))]) hown (hw _ tw_49) (hw _ tw_50) (hw _ tw_52) (hw _ tw_51) (hw _ tw_6) (hw _ tw_53) (by decide) (rmcoder_3 l Z a0 hw x0 h0 hks hfm CS FS O E Fc Fv Vb) E e35 (by rw [hml]; rfl) pd_0 rfl (by decide) (W := 1) (Nat.le_refl _) (by decide) (by decide) (by decide) d10_6 rfl rfl (fun v36 T36 L36 X36 hQ36 => ?_)
  obtain ⟨rfl, rfl, e36⟩ := hQ36
  show Ends p.tables e below _ (T36.setTop (mkF m 9 #[.val (.ref x0)] [(.int (0 : Int32)), (.int (3 : Int32))]))
  refine own_ishr X36 hx hby d10_9 rfl ?_
  refine own_ret X36 hx hby hret hlk d10_10 (.int (3 : Int32)) rfl (Or.inl ⟨rfl, by simp, _, rfl⟩) (by decide) (by decide) ?_
  exact ⟨rfl, rfl, e36⟩
set_option maxRecDepth 65536 in
set_option maxHeartbeats 40000000 in
theorem rmcoder_4 (l : Launch) (Z : State) (a0 : Array Value) (hw : ∀ d ∈ tables_1, d.before a0 Z = true) (x0 : Addr) (h0 : Heap) {ks : Int32} {fm : Value} (hks : ¬ ks = 0) (hfm : fm.isRef = true) (CS : Sta Z Z.heap "java/lang/String" "COMPACT_STRINGS" "Z" (.int ks)) (FS : Sta Z Z.heap "jdk/internal/util/Preconditions" "SIOOBE_FORMATTER" "Ljava/util/function/BiFunction;" fm) (O : Ext Z.heap h0) {b1 : Addr} {k1 : ClassId} {z0 z1 z2 z3 : Int32} (E : Exa Z h0 x0 "java/lang/String") (Fc : Fld Z h0 x0 "java/lang/String" "coder" "B" (.int 0)) (Fv : Fld Z h0 x0 "java/lang/String" "value" "[B" (.ref b1)) (Vb : Arv Z h0 b1 k1 .byte (4 : Int32) [(.int z0), (.int z1), (.int z2), (.int z3)] (.int 0)) :
    OwnMet l Z (⟨"java/lang/String", "coder", "()B"⟩ : MethodName) jdk_42_method_152_code 1 (some .byte) [] ({ frames := 0, cells := 0, slots := 0, locals := 0 } : Room) #[(.ref x0)] h0 (fun v h L => v = some (.int (0 : Int32)) ∧ L = [] ∧ h = h0) := by
  refine own_body (plainFor_of_name pn_0) (fun m => ef_coder_4 m x0) ?_
  intro p e s m below meth c s₁ X0 hx hby hml hown hnm hret hlk hZ e0
  replace hown : s.vm.findClass "java/lang/String" = some m.cls := hown
  replace hml : c.maxLocals = 1 := hml
  show Ends p.tables e below _ (s₁.setTop (mkF m 0 #[.val (.ref x0)] []))
  refine own_getstatic X0 hx hby hZ hown (host := "") (Or.inl (hw _ tw_29)) Via.refl e0 (CS.ext O) d11_0 rfl (fun T37 X37 e37 => ?_)
  refine own_if_eq X37 hx hby d11_3 (pcY := 13) (pcN := 6) (by decide) rfl (fun (hc38 : ks = (0 : Int32)) => False.elim (by exact hks hc38)) (fun (hc38 : ¬ ks = (0 : Int32)) => ?_)
  refine own_aloadN X37 hx hby d11_6 rfl rfl rfl ?_
  refine own_getfield X37 hx hby hZ hown (host := "") (Or.inl (hw _ tw_25)) Via.refl e37 Fc d11_7 rfl (fun T39 X39 e39 => ?_)
  refine own_goto X39 hx hby d11_10 (pc' := 14) (by decide) ?_
  refine own_ret X39 hx hby hret hlk d11_14 (.int (0 : Int32)) rfl (Or.inl ⟨rfl, by simp, _, rfl⟩) (by decide) (by decide) ?_
  exact ⟨rfl, rfl, e39⟩
set_option maxRecDepth 65536 in
set_option maxHeartbeats 40000000 in
theorem rmisLatin1_4 (l : Launch) (Z : State) (a0 : Array Value) (hw : ∀ d ∈ tables_1, d.before a0 Z = true) (x0 : Addr) (h0 : Heap) {ks : Int32} {fm : Value} (hks : ¬ ks = 0) (hfm : fm.isRef = true) (CS : Sta Z Z.heap "java/lang/String" "COMPACT_STRINGS" "Z" (.int ks)) (FS : Sta Z Z.heap "jdk/internal/util/Preconditions" "SIOOBE_FORMATTER" "Ljava/util/function/BiFunction;" fm) (O : Ext Z.heap h0) {b1 : Addr} {k1 : ClassId} {z0 z1 z2 z3 : Int32} (E : Exa Z h0 x0 "java/lang/String") (Fc : Fld Z h0 x0 "java/lang/String" "coder" "B" (.int 0)) (Fv : Fld Z h0 x0 "java/lang/String" "value" "[B" (.ref b1)) (Vb : Arv Z h0 b1 k1 .byte (4 : Int32) [(.int z0), (.int z1), (.int z2), (.int z3)] (.int 0)) :
    OwnMet l Z (⟨"java/lang/String", "isLatin1", "()Z"⟩ : MethodName) jdk_42_method_154_code 1 (some .boolean) [] ({ frames := 0, cells := 0, slots := 0, locals := 0 } : Room) #[(.ref x0)] h0 (fun v h L => v = some (.int (1 : Int32)) ∧ L = [] ∧ h = h0) := by
  refine own_body (plainFor_of_name pn_0) (fun m => ef_isLatin1_4 m x0) ?_
  intro p e s m below meth c s₁ X0 hx hby hml hown hnm hret hlk hZ e0
  replace hown : s.vm.findClass "java/lang/String" = some m.cls := hown
  replace hml : c.maxLocals = 1 := hml
  show Ends p.tables e below _ (s₁.setTop (mkF m 0 #[.val (.ref x0)] []))
  refine own_getstatic X0 hx hby hZ hown (host := "") (Or.inl (hw _ tw_29)) Via.refl e0 (CS.ext O) d15_0 rfl (fun T40 X40 e40 => ?_)
  refine own_if_eq X40 hx hby d15_3 (pcY := 17) (pcN := 6) (by decide) rfl (fun (hc41 : ks = (0 : Int32)) => False.elim (by exact hks hc41)) (fun (hc41 : ¬ ks = (0 : Int32)) => ?_)
  refine own_aloadN X40 hx hby d15_6 rfl rfl rfl ?_
  refine own_getfield X40 hx hby hZ hown (host := "") (Or.inl (hw _ tw_25)) Via.refl e40 Fc d15_7 rfl (fun T42 X42 e42 => ?_)
  refine own_if_ne X42 hx hby d15_10 (pcY := 17) (pcN := 13) (by decide) rfl (fun (hc43 : ¬ (0 : Int32) = (0 : Int32)) => False.elim (by exact absurd hc43 (by decide))) (fun (hc43 : (0 : Int32) = (0 : Int32)) => ?_)
  refine own_iconst X42 hx hby d15_13 rfl (1 : Int32) rfl ?_
  refine own_goto X42 hx hby d15_14 (pc' := 18) (by decide) ?_
  refine own_ret X42 hx hby hret hlk d15_18 (.int (1 : Int32)) rfl (Or.inl ⟨rfl, by simp, _, rfl⟩) (by decide) (by decide) ?_
  exact ⟨rfl, rfl, e42⟩
set_option maxRecDepth 65536 in
set_option maxHeartbeats 40000000 in
theorem rmlength_4 (l : Launch) (Z : State) (a0 : Array Value) (hw : ∀ d ∈ tables_1, d.before a0 Z = true) (x0 : Addr) (h0 : Heap) {ks : Int32} {fm : Value} (hks : ¬ ks = 0) (hfm : fm.isRef = true) (CS : Sta Z Z.heap "java/lang/String" "COMPACT_STRINGS" "Z" (.int ks)) (FS : Sta Z Z.heap "jdk/internal/util/Preconditions" "SIOOBE_FORMATTER" "Ljava/util/function/BiFunction;" fm) (O : Ext Z.heap h0) {b1 : Addr} {k1 : ClassId} {z0 z1 z2 z3 : Int32} (E : Exa Z h0 x0 "java/lang/String") (Fc : Fld Z h0 x0 "java/lang/String" "coder" "B" (.int 0)) (Fv : Fld Z h0 x0 "java/lang/String" "value" "[B" (.ref b1)) (Vb : Arv Z h0 b1 k1 .byte (4 : Int32) [(.int z0), (.int z1), (.int z2), (.int z3)] (.int 0)) :
    OwnMet l Z (⟨"java/lang/String", "length", "()I"⟩ : MethodName) jdk_42_method_54_code 1 (some .int) [] ({ frames := 1, cells := 0, slots := 0, locals := 13 } : Room) #[(.ref x0)] h0 (fun v h L => v = some (.int (4 : Int32)) ∧ L = [] ∧ h = h0) := by
  refine own_body (plainFor_of_name pn_0) (fun m => ef_length_4 m x0) ?_
  intro p e s m below meth c s₁ X0 hx hby hml hown hnm hret hlk hZ e0
  replace hown : s.vm.findClass "java/lang/String" = some m.cls := hown
  replace hml : c.maxLocals = 1 := hml
  show Ends p.tables e below _ (s₁.setTop (mkF m 0 #[.val (.ref x0)] []))
  refine own_aloadN X0 hx hby d10_0 rfl rfl rfl ?_
  refine own_getfield X0 hx hby hZ hown (host := "") (Or.inl (hw _ tw_24)) Via.refl e0 Fv d10_1 rfl (fun T44 X44 e44 => ?_)
  refine own_arraylength X44 hx hby hZ e44 Vb d10_4 rfl ?_
  refine own_aloadN X44 hx hby d10_5 rfl rfl rfl ?_
  refine own_virtual X44 hx hby hZ (Cn := "java/lang/String") (a := x0) (argsL := []) (rest := [(.int (4 : Int32))]) hown (hw _ tw_49) (hw _ tw_50) (hw _ tw_52) (hw _ tw_51) (hw _ tw_6) (hw _ tw_53) (by decide) (rmcoder_4 l Z a0 hw x0 h0 hks hfm CS FS O E Fc Fv Vb) E e44 (by rw [hml]; rfl) pd_0 rfl (by decide) (W := 1) (Nat.le_refl _) (by decide) (by decide) (by decide) d10_6 rfl rfl (fun v45 T45 L45 X45 hQ45 => ?_)
  obtain ⟨rfl, rfl, e45⟩ := hQ45
  show Ends p.tables e below _ (T45.setTop (mkF m 9 #[.val (.ref x0)] [(.int (0 : Int32)), (.int (4 : Int32))]))
  refine own_ishr X45 hx hby d10_9 rfl ?_
  refine own_ret X45 hx hby hret hlk d10_10 (.int (4 : Int32)) rfl (Or.inl ⟨rfl, by simp, _, rfl⟩) (by decide) (by decide) ?_
  exact ⟨rfl, rfl, e45⟩
set_option maxRecDepth 65536 in
set_option maxHeartbeats 40000000 in
theorem rmcft_0 (l : Launch) (Z : State) (a0 : Array Value) (hw : ∀ d ∈ tables_1, d.before a0 Z = true)  (h0 : Heap) (fm : Value) (hfm : fm.isRef = true) :
    OwnMet l Z (⟨"jdk/internal/util/Preconditions", "checkFromToIndex", "(IIILjava/util/function/BiFunction;)I"⟩ : MethodName) jdk_41_method_12_code 4 (some .int) [] ({ frames := 0, cells := 0, slots := 0, locals := 0 } : Room) #[(.int (0 : Int32)), (.int (0 : Int32)), (.int (1 : Int32)), fm] h0 (fun v h L => v = some (.int 0) ∧ L = [] ∧ h = h0) := by
  refine own_body (plainFor_of_name pn_1) (fun m => ef_cft_0 m fm hfm) ?_
  intro p e s m below meth c s₁ X0 hx hby hml hown hnm hret hlk hZ e0
  replace hown : s.vm.findClass "jdk/internal/util/Preconditions" = some m.cls := hown
  replace hml : c.maxLocals = 4 := hml
  show Ends p.tables e below _ (s₁.setTop (mkF m 0 #[.val (.int (0 : Int32)), .val (.int (0 : Int32)), .val (.int (1 : Int32)), .val fm] []))
  refine own_iloadN X0 hx hby d14_0 rfl rfl ?_
  refine own_if_lt X0 hx hby d14_1 (pcY := 14) (pcN := 4) (by decide) rfl (fun (hc46 : 0 < 0) => False.elim (by exact absurd hc46 (by decide))) (fun (hc46 : 0 ≤ 0) => ?_)
  refine own_iloadN X0 hx hby d14_4 rfl rfl ?_
  refine own_iloadN X0 hx hby d14_5 rfl rfl ?_
  refine own_icmp_gt X0 hx hby d14_6 (pcY := 14) (pcN := 9) (by decide) rfl (fun (hc47 : 0 < 0) => False.elim (by exact absurd hc47 (by decide))) (fun (hc47 : 0 ≤ 0) => ?_)
  refine own_iloadN X0 hx hby d14_9 rfl rfl ?_
  refine own_iloadN X0 hx hby d14_10 rfl rfl ?_
  refine own_icmp_le X0 hx hby d14_11 (pcY := 22) (pcN := 14) (by decide) rfl (fun (hc48 : 0 ≤ 1) => ?_) (fun (hc48 : 1 < 0) => False.elim (by exact absurd hc48 (by decide)))
  refine own_iloadN X0 hx hby d14_22 rfl rfl ?_
  refine own_ret X0 hx hby hret hlk d14_23 (.int (0 : Int32)) rfl (Or.inl ⟨rfl, by simp, _, rfl⟩) (by decide) (by decide) ?_
  exact ⟨rfl, rfl, e0⟩
set_option maxRecDepth 65536 in
set_option maxHeartbeats 40000000 in
theorem rmcft_1 (l : Launch) (Z : State) (a0 : Array Value) (hw : ∀ d ∈ tables_1, d.before a0 Z = true)  (h0 : Heap) (fm : Value) (hfm : fm.isRef = true) :
    OwnMet l Z (⟨"jdk/internal/util/Preconditions", "checkFromToIndex", "(IIILjava/util/function/BiFunction;)I"⟩ : MethodName) jdk_41_method_12_code 4 (some .int) [] ({ frames := 0, cells := 0, slots := 0, locals := 0 } : Room) #[(.int (0 : Int32)), (.int (1 : Int32)), (.int (2 : Int32)), fm] h0 (fun v h L => v = some (.int 0) ∧ L = [] ∧ h = h0) := by
  refine own_body (plainFor_of_name pn_1) (fun m => ef_cft_1 m fm hfm) ?_
  intro p e s m below meth c s₁ X0 hx hby hml hown hnm hret hlk hZ e0
  replace hown : s.vm.findClass "jdk/internal/util/Preconditions" = some m.cls := hown
  replace hml : c.maxLocals = 4 := hml
  show Ends p.tables e below _ (s₁.setTop (mkF m 0 #[.val (.int (0 : Int32)), .val (.int (1 : Int32)), .val (.int (2 : Int32)), .val fm] []))
  refine own_iloadN X0 hx hby d14_0 rfl rfl ?_
  refine own_if_lt X0 hx hby d14_1 (pcY := 14) (pcN := 4) (by decide) rfl (fun (hc49 : 0 < 0) => False.elim (by exact absurd hc49 (by decide))) (fun (hc49 : 0 ≤ 0) => ?_)
  refine own_iloadN X0 hx hby d14_4 rfl rfl ?_
  refine own_iloadN X0 hx hby d14_5 rfl rfl ?_
  refine own_icmp_gt X0 hx hby d14_6 (pcY := 14) (pcN := 9) (by decide) rfl (fun (hc50 : 1 < 0) => False.elim (by exact absurd hc50 (by decide))) (fun (hc50 : 0 ≤ 1) => ?_)
  refine own_iloadN X0 hx hby d14_9 rfl rfl ?_
  refine own_iloadN X0 hx hby d14_10 rfl rfl ?_
  refine own_icmp_le X0 hx hby d14_11 (pcY := 22) (pcN := 14) (by decide) rfl (fun (hc51 : 1 ≤ 2) => ?_) (fun (hc51 : 2 < 1) => False.elim (by exact absurd hc51 (by decide)))
  refine own_iloadN X0 hx hby d14_22 rfl rfl ?_
  refine own_ret X0 hx hby hret hlk d14_23 (.int (0 : Int32)) rfl (Or.inl ⟨rfl, by simp, _, rfl⟩) (by decide) (by decide) ?_
  exact ⟨rfl, rfl, e0⟩
set_option maxRecDepth 65536 in
set_option maxHeartbeats 40000000 in
theorem rmcft_2 (l : Launch) (Z : State) (a0 : Array Value) (hw : ∀ d ∈ tables_1, d.before a0 Z = true)  (h0 : Heap) (fm : Value) (hfm : fm.isRef = true) :
    OwnMet l Z (⟨"jdk/internal/util/Preconditions", "checkFromToIndex", "(IIILjava/util/function/BiFunction;)I"⟩ : MethodName) jdk_41_method_12_code 4 (some .int) [] ({ frames := 0, cells := 0, slots := 0, locals := 0 } : Room) #[(.int (0 : Int32)), (.int (2 : Int32)), (.int (3 : Int32)), fm] h0 (fun v h L => v = some (.int 0) ∧ L = [] ∧ h = h0) := by
  refine own_body (plainFor_of_name pn_1) (fun m => ef_cft_2 m fm hfm) ?_
  intro p e s m below meth c s₁ X0 hx hby hml hown hnm hret hlk hZ e0
  replace hown : s.vm.findClass "jdk/internal/util/Preconditions" = some m.cls := hown
  replace hml : c.maxLocals = 4 := hml
  show Ends p.tables e below _ (s₁.setTop (mkF m 0 #[.val (.int (0 : Int32)), .val (.int (2 : Int32)), .val (.int (3 : Int32)), .val fm] []))
  refine own_iloadN X0 hx hby d14_0 rfl rfl ?_
  refine own_if_lt X0 hx hby d14_1 (pcY := 14) (pcN := 4) (by decide) rfl (fun (hc52 : 0 < 0) => False.elim (by exact absurd hc52 (by decide))) (fun (hc52 : 0 ≤ 0) => ?_)
  refine own_iloadN X0 hx hby d14_4 rfl rfl ?_
  refine own_iloadN X0 hx hby d14_5 rfl rfl ?_
  refine own_icmp_gt X0 hx hby d14_6 (pcY := 14) (pcN := 9) (by decide) rfl (fun (hc53 : 2 < 0) => False.elim (by exact absurd hc53 (by decide))) (fun (hc53 : 0 ≤ 2) => ?_)
  refine own_iloadN X0 hx hby d14_9 rfl rfl ?_
  refine own_iloadN X0 hx hby d14_10 rfl rfl ?_
  refine own_icmp_le X0 hx hby d14_11 (pcY := 22) (pcN := 14) (by decide) rfl (fun (hc54 : 2 ≤ 3) => ?_) (fun (hc54 : 3 < 2) => False.elim (by exact absurd hc54 (by decide)))
  refine own_iloadN X0 hx hby d14_22 rfl rfl ?_
  refine own_ret X0 hx hby hret hlk d14_23 (.int (0 : Int32)) rfl (Or.inl ⟨rfl, by simp, _, rfl⟩) (by decide) (by decide) ?_
  exact ⟨rfl, rfl, e0⟩
set_option maxRecDepth 65536 in
set_option maxHeartbeats 40000000 in
theorem rmcft_3 (l : Launch) (Z : State) (a0 : Array Value) (hw : ∀ d ∈ tables_1, d.before a0 Z = true)  (h0 : Heap) (fm : Value) (hfm : fm.isRef = true) :
    OwnMet l Z (⟨"jdk/internal/util/Preconditions", "checkFromToIndex", "(IIILjava/util/function/BiFunction;)I"⟩ : MethodName) jdk_41_method_12_code 4 (some .int) [] ({ frames := 0, cells := 0, slots := 0, locals := 0 } : Room) #[(.int (0 : Int32)), (.int (3 : Int32)), (.int (4 : Int32)), fm] h0 (fun v h L => v = some (.int 0) ∧ L = [] ∧ h = h0) := by
  refine own_body (plainFor_of_name pn_1) (fun m => ef_cft_3 m fm hfm) ?_
  intro p e s m below meth c s₁ X0 hx hby hml hown hnm hret hlk hZ e0
  replace hown : s.vm.findClass "jdk/internal/util/Preconditions" = some m.cls := hown
  replace hml : c.maxLocals = 4 := hml
  show Ends p.tables e below _ (s₁.setTop (mkF m 0 #[.val (.int (0 : Int32)), .val (.int (3 : Int32)), .val (.int (4 : Int32)), .val fm] []))
  refine own_iloadN X0 hx hby d14_0 rfl rfl ?_
  refine own_if_lt X0 hx hby d14_1 (pcY := 14) (pcN := 4) (by decide) rfl (fun (hc55 : 0 < 0) => False.elim (by exact absurd hc55 (by decide))) (fun (hc55 : 0 ≤ 0) => ?_)
  refine own_iloadN X0 hx hby d14_4 rfl rfl ?_
  refine own_iloadN X0 hx hby d14_5 rfl rfl ?_
  refine own_icmp_gt X0 hx hby d14_6 (pcY := 14) (pcN := 9) (by decide) rfl (fun (hc56 : 3 < 0) => False.elim (by exact absurd hc56 (by decide))) (fun (hc56 : 0 ≤ 3) => ?_)
  refine own_iloadN X0 hx hby d14_9 rfl rfl ?_
  refine own_iloadN X0 hx hby d14_10 rfl rfl ?_
  refine own_icmp_le X0 hx hby d14_11 (pcY := 22) (pcN := 14) (by decide) rfl (fun (hc57 : 3 ≤ 4) => ?_) (fun (hc57 : 4 < 3) => False.elim (by exact absurd hc57 (by decide)))
  refine own_iloadN X0 hx hby d14_22 rfl rfl ?_
  refine own_ret X0 hx hby hret hlk d14_23 (.int (0 : Int32)) rfl (Or.inl ⟨rfl, by simp, _, rfl⟩) (by decide) (by decide) ?_
  exact ⟨rfl, rfl, e0⟩
set_option maxRecDepth 65536 in
set_option maxHeartbeats 40000000 in
theorem rmcb_0 (l : Launch) (Z : State) (a0 : Array Value) (hw : ∀ d ∈ tables_1, d.before a0 Z = true)  (h0 : Heap) {ks : Int32} {fm : Value} (hks : ¬ ks = 0) (hfm : fm.isRef = true) (CS : Sta Z Z.heap "java/lang/String" "COMPACT_STRINGS" "Z" (.int ks)) (FS : Sta Z Z.heap "jdk/internal/util/Preconditions" "SIOOBE_FORMATTER" "Ljava/util/function/BiFunction;" fm) (O : Ext Z.heap h0) :
    OwnMet l Z (⟨"java/lang/String", "checkBoundsBeginEnd", "(III)V"⟩ : MethodName) jdk_42_method_158_code 3 none [] ({ frames := 1, cells := 0, slots := 0, locals := 15 } : Room) #[(.int (0 : Int32)), (.int (0 : Int32)), (.int (1 : Int32))] h0 (fun v h L => v = none ∧ L = [] ∧ h = h0) := by
  refine own_body (plainFor_of_name pn_0) (fun m => ef_cb_0 m ) ?_
  intro p e s m below meth c s₁ X0 hx hby hml hown hnm hret hlk hZ e0
  replace hown : s.vm.findClass "java/lang/String" = some m.cls := hown
  replace hml : c.maxLocals = 3 := hml
  show Ends p.tables e below _ (s₁.setTop (mkF m 0 #[.val (.int (0 : Int32)), .val (.int (0 : Int32)), .val (.int (1 : Int32))] []))
  refine own_iloadN X0 hx hby d13_0 rfl rfl ?_
  refine own_iloadN X0 hx hby d13_1 rfl rfl ?_
  refine own_iloadN X0 hx hby d13_2 rfl rfl ?_
  refine own_getstatic X0 hx hby hZ hown (host := "") (Or.inl (hw _ tw_64)) Via.refl e0 (FS.ext O) d13_3 rfl (fun T58 X58 e58 => ?_)
  refine own_static X58 hx hby hZ (argsL := [(.int (0 : Int32)), (.int (0 : Int32)), (.int (1 : Int32)), fm]) (rest := []) hown (hw _ tw_66) (hw _ tw_67) (hw _ tw_65) (hw _ tw_68) (by decide) (rmcft_0 l Z a0 hw h0 fm hfm) e58 (by rw [hml]; rfl) pd_1 rfl (by decide) (W := 0) (Nat.le_refl _) (by decide) (by decide) (by decide) d13_6 rfl rfl (fun v59 T59 L59 X59 hQ59 => ?_)
  obtain ⟨rfl, rfl, e59⟩ := hQ59
  show Ends p.tables e below _ (T59.setTop (mkF m 9 #[.val (.int (0 : Int32)), .val (.int (0 : Int32)), .val (.int (1 : Int32))] [(.int (0 : Int32))]))
  refine own_pop X59 hx hby d13_9 rfl rfl ?_
  refine own_retV X59 hx hby hret hlk d13_10 (by decide) (by decide) ?_
  exact ⟨rfl, rfl, e59⟩
set_option maxRecDepth 65536 in
set_option maxHeartbeats 40000000 in
theorem rmcb_1 (l : Launch) (Z : State) (a0 : Array Value) (hw : ∀ d ∈ tables_1, d.before a0 Z = true)  (h0 : Heap) {ks : Int32} {fm : Value} (hks : ¬ ks = 0) (hfm : fm.isRef = true) (CS : Sta Z Z.heap "java/lang/String" "COMPACT_STRINGS" "Z" (.int ks)) (FS : Sta Z Z.heap "jdk/internal/util/Preconditions" "SIOOBE_FORMATTER" "Ljava/util/function/BiFunction;" fm) (O : Ext Z.heap h0) :
    OwnMet l Z (⟨"java/lang/String", "checkBoundsBeginEnd", "(III)V"⟩ : MethodName) jdk_42_method_158_code 3 none [] ({ frames := 1, cells := 0, slots := 0, locals := 15 } : Room) #[(.int (0 : Int32)), (.int (1 : Int32)), (.int (2 : Int32))] h0 (fun v h L => v = none ∧ L = [] ∧ h = h0) := by
  refine own_body (plainFor_of_name pn_0) (fun m => ef_cb_1 m ) ?_
  intro p e s m below meth c s₁ X0 hx hby hml hown hnm hret hlk hZ e0
  replace hown : s.vm.findClass "java/lang/String" = some m.cls := hown
  replace hml : c.maxLocals = 3 := hml
  show Ends p.tables e below _ (s₁.setTop (mkF m 0 #[.val (.int (0 : Int32)), .val (.int (1 : Int32)), .val (.int (2 : Int32))] []))
  refine own_iloadN X0 hx hby d13_0 rfl rfl ?_
  refine own_iloadN X0 hx hby d13_1 rfl rfl ?_
  refine own_iloadN X0 hx hby d13_2 rfl rfl ?_
  refine own_getstatic X0 hx hby hZ hown (host := "") (Or.inl (hw _ tw_64)) Via.refl e0 (FS.ext O) d13_3 rfl (fun T60 X60 e60 => ?_)
  refine own_static X60 hx hby hZ (argsL := [(.int (0 : Int32)), (.int (1 : Int32)), (.int (2 : Int32)), fm]) (rest := []) hown (hw _ tw_66) (hw _ tw_67) (hw _ tw_65) (hw _ tw_68) (by decide) (rmcft_1 l Z a0 hw h0 fm hfm) e60 (by rw [hml]; rfl) pd_1 rfl (by decide) (W := 0) (Nat.le_refl _) (by decide) (by decide) (by decide) d13_6 rfl rfl (fun v61 T61 L61 X61 hQ61 => ?_)
  obtain ⟨rfl, rfl, e61⟩ := hQ61
  show Ends p.tables e below _ (T61.setTop (mkF m 9 #[.val (.int (0 : Int32)), .val (.int (1 : Int32)), .val (.int (2 : Int32))] [(.int (0 : Int32))]))
  refine own_pop X61 hx hby d13_9 rfl rfl ?_
  refine own_retV X61 hx hby hret hlk d13_10 (by decide) (by decide) ?_
  exact ⟨rfl, rfl, e61⟩
set_option maxRecDepth 65536 in
set_option maxHeartbeats 40000000 in
theorem rmcb_2 (l : Launch) (Z : State) (a0 : Array Value) (hw : ∀ d ∈ tables_1, d.before a0 Z = true)  (h0 : Heap) {ks : Int32} {fm : Value} (hks : ¬ ks = 0) (hfm : fm.isRef = true) (CS : Sta Z Z.heap "java/lang/String" "COMPACT_STRINGS" "Z" (.int ks)) (FS : Sta Z Z.heap "jdk/internal/util/Preconditions" "SIOOBE_FORMATTER" "Ljava/util/function/BiFunction;" fm) (O : Ext Z.heap h0) :
    OwnMet l Z (⟨"java/lang/String", "checkBoundsBeginEnd", "(III)V"⟩ : MethodName) jdk_42_method_158_code 3 none [] ({ frames := 1, cells := 0, slots := 0, locals := 15 } : Room) #[(.int (0 : Int32)), (.int (2 : Int32)), (.int (3 : Int32))] h0 (fun v h L => v = none ∧ L = [] ∧ h = h0) := by
  refine own_body (plainFor_of_name pn_0) (fun m => ef_cb_2 m ) ?_
  intro p e s m below meth c s₁ X0 hx hby hml hown hnm hret hlk hZ e0
  replace hown : s.vm.findClass "java/lang/String" = some m.cls := hown
  replace hml : c.maxLocals = 3 := hml
  show Ends p.tables e below _ (s₁.setTop (mkF m 0 #[.val (.int (0 : Int32)), .val (.int (2 : Int32)), .val (.int (3 : Int32))] []))
  refine own_iloadN X0 hx hby d13_0 rfl rfl ?_
  refine own_iloadN X0 hx hby d13_1 rfl rfl ?_
  refine own_iloadN X0 hx hby d13_2 rfl rfl ?_
  refine own_getstatic X0 hx hby hZ hown (host := "") (Or.inl (hw _ tw_64)) Via.refl e0 (FS.ext O) d13_3 rfl (fun T62 X62 e62 => ?_)
  refine own_static X62 hx hby hZ (argsL := [(.int (0 : Int32)), (.int (2 : Int32)), (.int (3 : Int32)), fm]) (rest := []) hown (hw _ tw_66) (hw _ tw_67) (hw _ tw_65) (hw _ tw_68) (by decide) (rmcft_2 l Z a0 hw h0 fm hfm) e62 (by rw [hml]; rfl) pd_1 rfl (by decide) (W := 0) (Nat.le_refl _) (by decide) (by decide) (by decide) d13_6 rfl rfl (fun v63 T63 L63 X63 hQ63 => ?_)
  obtain ⟨rfl, rfl, e63⟩ := hQ63
  show Ends p.tables e below _ (T63.setTop (mkF m 9 #[.val (.int (0 : Int32)), .val (.int (2 : Int32)), .val (.int (3 : Int32))] [(.int (0 : Int32))]))
  refine own_pop X63 hx hby d13_9 rfl rfl ?_
  refine own_retV X63 hx hby hret hlk d13_10 (by decide) (by decide) ?_
  exact ⟨rfl, rfl, e63⟩
set_option maxRecDepth 65536 in
set_option maxHeartbeats 40000000 in
theorem rmcb_3 (l : Launch) (Z : State) (a0 : Array Value) (hw : ∀ d ∈ tables_1, d.before a0 Z = true)  (h0 : Heap) {ks : Int32} {fm : Value} (hks : ¬ ks = 0) (hfm : fm.isRef = true) (CS : Sta Z Z.heap "java/lang/String" "COMPACT_STRINGS" "Z" (.int ks)) (FS : Sta Z Z.heap "jdk/internal/util/Preconditions" "SIOOBE_FORMATTER" "Ljava/util/function/BiFunction;" fm) (O : Ext Z.heap h0) :
    OwnMet l Z (⟨"java/lang/String", "checkBoundsBeginEnd", "(III)V"⟩ : MethodName) jdk_42_method_158_code 3 none [] ({ frames := 1, cells := 0, slots := 0, locals := 15 } : Room) #[(.int (0 : Int32)), (.int (3 : Int32)), (.int (4 : Int32))] h0 (fun v h L => v = none ∧ L = [] ∧ h = h0) := by
  refine own_body (plainFor_of_name pn_0) (fun m => ef_cb_3 m ) ?_
  intro p e s m below meth c s₁ X0 hx hby hml hown hnm hret hlk hZ e0
  replace hown : s.vm.findClass "java/lang/String" = some m.cls := hown
  replace hml : c.maxLocals = 3 := hml
  show Ends p.tables e below _ (s₁.setTop (mkF m 0 #[.val (.int (0 : Int32)), .val (.int (3 : Int32)), .val (.int (4 : Int32))] []))
  refine own_iloadN X0 hx hby d13_0 rfl rfl ?_
  refine own_iloadN X0 hx hby d13_1 rfl rfl ?_
  refine own_iloadN X0 hx hby d13_2 rfl rfl ?_
  refine own_getstatic X0 hx hby hZ hown (host := "") (Or.inl (hw _ tw_64)) Via.refl e0 (FS.ext O) d13_3 rfl (fun T64 X64 e64 => ?_)
  refine own_static X64 hx hby hZ (argsL := [(.int (0 : Int32)), (.int (3 : Int32)), (.int (4 : Int32)), fm]) (rest := []) hown (hw _ tw_66) (hw _ tw_67) (hw _ tw_65) (hw _ tw_68) (by decide) (rmcft_3 l Z a0 hw h0 fm hfm) e64 (by rw [hml]; rfl) pd_1 rfl (by decide) (W := 0) (Nat.le_refl _) (by decide) (by decide) (by decide) d13_6 rfl rfl (fun v65 T65 L65 X65 hQ65 => ?_)
  obtain ⟨rfl, rfl, e65⟩ := hQ65
  show Ends p.tables e below _ (T65.setTop (mkF m 9 #[.val (.int (0 : Int32)), .val (.int (3 : Int32)), .val (.int (4 : Int32))] [(.int (0 : Int32))]))
  refine own_pop X65 hx hby d13_9 rfl rfl ?_
  refine own_retV X65 hx hby hret hlk d13_10 (by decide) (by decide) ?_
  exact ⟨rfl, rfl, e65⟩
set_option maxRecDepth 65536 in
set_option maxHeartbeats 40000000 in
theorem rmc2_1 (l : Launch) (Z : State) (a0 : Array Value) (hw : ∀ d ∈ tables_1, d.before a0 Z = true) (x0 : Addr) (x2 : Addr) (h0 : Heap) (n0 : Nat) {ka kb : ClassId} {z0 : Int32} (gx : n0 ≤ x2) (nx : x0 ≠ x2) (hz0 : z0.toInt ≤ 255) (Va : Arv Z h0 x0 ka .char (1 : Int32) [(.int z0)] (.int 0)) (Vb : Arv Z h0 x2 kb .byte (1 : Int32) [(.int (0 : Int32))] (.int 0)) :
    OwnMet l Z (⟨"java/lang/StringUTF16", "compress", "([CI[BII)I"⟩ : MethodName) jdk_52_method_21_code 7 (some .int) [] ({ frames := 0, cells := 0, slots := 0, locals := 0 } : Room) #[(.ref x0), (.int (0 : Int32)), (.ref x2), (.int (0 : Int32)), (.int (1 : Int32))] h0 (fun v h L => v = some (.int (1 : Int32)) ∧ Fr n0 L ∧ Keep h0 h [x2] ∧ Arv Z h x2 kb .byte (1 : Int32) [(.int z0.toInt8.toInt32)] (.int 0)) := by
  refine own_body (plainFor_of_name pn_2) (fun m => ef_c2_1 m x0 x2) ?_
  intro p e s m below meth c s₁ X0 hx hby hml hown hnm hret hlk hZ e0
  replace hown : s.vm.findClass "java/lang/StringUTF16" = some m.cls := hown
  replace hml : c.maxLocals = 7 := hml
  have N0 := Fr.nil n0
  show Ends p.tables e below _ (s₁.setTop (mkF m 0 #[.val (.ref x0), .val (.int (0 : Int32)), .val (.ref x2), .val (.int (0 : Int32)), .val (.int (1 : Int32)), .unset, .unset] []))
  refine own_iconst X0 hx hby d7_0 rfl (0 : Int32) rfl ?_
  refine own_istore X0 hx hby d7_1 rfl #[.val (.ref x0), .val (.int (0 : Int32)), .val (.ref x2), .val (.int (0 : Int32)), .val (.int (1 : Int32)), .val (.int (0 : Int32)), .unset] rfl ?_
  refine own_iload X0 hx hby d7_3 rfl rfl ?_
  refine own_iload X0 hx hby d7_5 rfl rfl ?_
  refine own_icmp_ge X0 hx hby d7_7 (pcY := 44) (pcN := 10) (by decide) rfl (fun (hc66 : 1 ≤ 0) => False.elim (by exact absurd hc66 (by decide))) (fun (hc66 : 0 < 1) => ?_)
  refine own_aloadN X0 hx hby d7_10 rfl rfl rfl ?_
  refine own_iloadN X0 hx hby d7_11 rfl rfl ?_
  refine own_caload X0 hx hby hZ z0 e0 Va (by decide) rfl d7_12 rfl ?_
  refine own_istore X0 hx hby d7_13 rfl #[.val (.ref x0), .val (.int (0 : Int32)), .val (.ref x2), .val (.int (0 : Int32)), .val (.int (1 : Int32)), .val (.int (0 : Int32)), .val (.int z0)] rfl ?_
  refine own_iload X0 hx hby d7_15 rfl rfl ?_
  refine own_sipush X0 hx hby d7_17 rfl (255 : Int32) rfl ?_
  refine own_icmp_le X0 hx hby d7_20 (pcY := 26) (pcN := 23) (by decide) rfl (fun (hc67 : z0.toInt ≤ 255) => ?_) (fun (hc67 : 255 < z0.toInt) => False.elim (by have k5 : (255 : Int32).toInt = 255 := rfl; omega))
  refine own_aloadN X0 hx hby d7_26 rfl rfl rfl ?_
  refine own_iloadN X0 hx hby d7_27 rfl rfl ?_
  refine own_iload X0 hx hby d7_28 rfl rfl ?_
  refine own_i2b X0 hx hby d7_30 rfl ?_
  refine own_bastore X0 hx hby hZ z0.toInt8.toInt32 (own_narb _) e0 Vb (by decide) 0 rfl (show 0 < 1 by decide) [(.int z0.toInt8.toInt32)] rfl (fits_nar_byte _) N0 gx d7_31 rfl (fun T68 h68 L68 X68 e68 W68 V68 N68 => ?_)
  refine own_iinc X68 hx hby d7_32 rfl (1 : Int32) rfl #[.val (.ref x0), .val (.int (1 : Int32)), .val (.ref x2), .val (.int (0 : Int32)), .val (.int (1 : Int32)), .val (.int (0 : Int32)), .val (.int z0)] rfl rfl ?_
  refine own_iinc X68 hx hby d7_35 rfl (1 : Int32) rfl #[.val (.ref x0), .val (.int (1 : Int32)), .val (.ref x2), .val (.int (1 : Int32)), .val (.int (1 : Int32)), .val (.int (0 : Int32)), .val (.int z0)] rfl rfl ?_
  refine own_iinc X68 hx hby d7_38 rfl (1 : Int32) rfl #[.val (.ref x0), .val (.int (1 : Int32)), .val (.ref x2), .val (.int (1 : Int32)), .val (.int (1 : Int32)), .val (.int (1 : Int32)), .val (.int z0)] rfl rfl ?_
  refine own_goto X68 hx hby d7_41 (pc' := 3) (by decide) ?_
  refine own_iload X68 hx hby d7_3 rfl rfl ?_
  refine own_iload X68 hx hby d7_5 rfl rfl ?_
  refine own_icmp_ge X68 hx hby d7_7 (pcY := 44) (pcN := 10) (by decide) rfl (fun (hc69 : 1 ≤ 1) => ?_) (fun (hc69 : 1 < 1) => False.elim (by exact absurd hc69 (by decide)))
  refine own_iload X68 hx hby d7_44 rfl rfl ?_
  refine own_ret X68 hx hby hret hlk d7_46 (.int (1 : Int32)) rfl (Or.inl ⟨rfl, by simp, _, rfl⟩) (by decide) (by decide) ?_
  have f70 := ((Keep.refl h0 [x2]).wr W68 (Or.inl (by simp)))
  rw [e68]
  exact ⟨rfl, N68, f70, V68⟩
set_option maxRecDepth 65536 in
set_option maxHeartbeats 40000000 in
theorem rmc2_2 (l : Launch) (Z : State) (a0 : Array Value) (hw : ∀ d ∈ tables_1, d.before a0 Z = true) (x0 : Addr) (x2 : Addr) (h0 : Heap) (n0 : Nat) {ka kb : ClassId} {z0 z1 : Int32} (gx : n0 ≤ x2) (nx : x0 ≠ x2) (hz0 : z0.toInt ≤ 255) (hz1 : z1.toInt ≤ 255) (Va : Arv Z h0 x0 ka .char (2 : Int32) [(.int z0), (.int z1)] (.int 0)) (Vb : Arv Z h0 x2 kb .byte (2 : Int32) [(.int (0 : Int32)), (.int (0 : Int32))] (.int 0)) :
    OwnMet l Z (⟨"java/lang/StringUTF16", "compress", "([CI[BII)I"⟩ : MethodName) jdk_52_method_21_code 7 (some .int) [] ({ frames := 0, cells := 0, slots := 0, locals := 0 } : Room) #[(.ref x0), (.int (0 : Int32)), (.ref x2), (.int (0 : Int32)), (.int (2 : Int32))] h0 (fun v h L => v = some (.int (2 : Int32)) ∧ Fr n0 L ∧ Keep h0 h [x2] ∧ Arv Z h x2 kb .byte (2 : Int32) [(.int z0.toInt8.toInt32), (.int z1.toInt8.toInt32)] (.int 0)) := by
  refine own_body (plainFor_of_name pn_2) (fun m => ef_c2_2 m x0 x2) ?_
  intro p e s m below meth c s₁ X0 hx hby hml hown hnm hret hlk hZ e0
  replace hown : s.vm.findClass "java/lang/StringUTF16" = some m.cls := hown
  replace hml : c.maxLocals = 7 := hml
  have N0 := Fr.nil n0
  show Ends p.tables e below _ (s₁.setTop (mkF m 0 #[.val (.ref x0), .val (.int (0 : Int32)), .val (.ref x2), .val (.int (0 : Int32)), .val (.int (2 : Int32)), .unset, .unset] []))
  refine own_iconst X0 hx hby d7_0 rfl (0 : Int32) rfl ?_
  refine own_istore X0 hx hby d7_1 rfl #[.val (.ref x0), .val (.int (0 : Int32)), .val (.ref x2), .val (.int (0 : Int32)), .val (.int (2 : Int32)), .val (.int (0 : Int32)), .unset] rfl ?_
  refine own_iload X0 hx hby d7_3 rfl rfl ?_
  refine own_iload X0 hx hby d7_5 rfl rfl ?_
  refine own_icmp_ge X0 hx hby d7_7 (pcY := 44) (pcN := 10) (by decide) rfl (fun (hc71 : 2 ≤ 0) => False.elim (by exact absurd hc71 (by decide))) (fun (hc71 : 0 < 2) => ?_)
  refine own_aloadN X0 hx hby d7_10 rfl rfl rfl ?_
  refine own_iloadN X0 hx hby d7_11 rfl rfl ?_
  refine own_caload X0 hx hby hZ z0 e0 Va (by decide) rfl d7_12 rfl ?_
  refine own_istore X0 hx hby d7_13 rfl #[.val (.ref x0), .val (.int (0 : Int32)), .val (.ref x2), .val (.int (0 : Int32)), .val (.int (2 : Int32)), .val (.int (0 : Int32)), .val (.int z0)] rfl ?_
  refine own_iload X0 hx hby d7_15 rfl rfl ?_
  refine own_sipush X0 hx hby d7_17 rfl (255 : Int32) rfl ?_
  refine own_icmp_le X0 hx hby d7_20 (pcY := 26) (pcN := 23) (by decide) rfl (fun (hc72 : z0.toInt ≤ 255) => ?_) (fun (hc72 : 255 < z0.toInt) => False.elim (by have k5 : (255 : Int32).toInt = 255 := rfl; omega))
  refine own_aloadN X0 hx hby d7_26 rfl rfl rfl ?_
  refine own_iloadN X0 hx hby d7_27 rfl rfl ?_
  refine own_iload X0 hx hby d7_28 rfl rfl ?_
  refine own_i2b X0 hx hby d7_30 rfl ?_
  refine own_bastore X0 hx hby hZ z0.toInt8.toInt32 (own_narb _) e0 Vb (by decide) 0 rfl (show 0 < 2 by decide) [(.int z0.toInt8.toInt32), (.int (0 : Int32))] rfl (fits_nar_byte _) N0 gx d7_31 rfl (fun T73 h73 L73 X73 e73 W73 V73 N73 => ?_)
  refine own_iinc X73 hx hby d7_32 rfl (1 : Int32) rfl #[.val (.ref x0), .val (.int (1 : Int32)), .val (.ref x2), .val (.int (0 : Int32)), .val (.int (2 : Int32)), .val (.int (0 : Int32)), .val (.int z0)] rfl rfl ?_
  refine own_iinc X73 hx hby d7_35 rfl (1 : Int32) rfl #[.val (.ref x0), .val (.int (1 : Int32)), .val (.ref x2), .val (.int (1 : Int32)), .val (.int (2 : Int32)), .val (.int (0 : Int32)), .val (.int z0)] rfl rfl ?_
  refine own_iinc X73 hx hby d7_38 rfl (1 : Int32) rfl #[.val (.ref x0), .val (.int (1 : Int32)), .val (.ref x2), .val (.int (1 : Int32)), .val (.int (2 : Int32)), .val (.int (1 : Int32)), .val (.int z0)] rfl rfl ?_
  refine own_goto X73 hx hby d7_41 (pc' := 3) (by decide) ?_
  refine own_iload X73 hx hby d7_3 rfl rfl ?_
  refine own_iload X73 hx hby d7_5 rfl rfl ?_
  refine own_icmp_ge X73 hx hby d7_7 (pcY := 44) (pcN := 10) (by decide) rfl (fun (hc74 : 2 ≤ 1) => False.elim (by exact absurd hc74 (by decide))) (fun (hc74 : 1 < 2) => ?_)
  refine own_aloadN X73 hx hby d7_10 rfl rfl rfl ?_
  refine own_iloadN X73 hx hby d7_11 rfl rfl ?_
  have f75 := (Va.other W73 nx)
  refine own_caload X73 hx hby hZ z1 e73 f75 (by decide) rfl d7_12 rfl ?_
  refine own_istore X73 hx hby d7_13 rfl #[.val (.ref x0), .val (.int (1 : Int32)), .val (.ref x2), .val (.int (1 : Int32)), .val (.int (2 : Int32)), .val (.int (1 : Int32)), .val (.int z1)] rfl ?_
  refine own_iload X73 hx hby d7_15 rfl rfl ?_
  refine own_sipush X73 hx hby d7_17 rfl (255 : Int32) rfl ?_
  refine own_icmp_le X73 hx hby d7_20 (pcY := 26) (pcN := 23) (by decide) rfl (fun (hc76 : z1.toInt ≤ 255) => ?_) (fun (hc76 : 255 < z1.toInt) => False.elim (by have k5 : (255 : Int32).toInt = 255 := rfl; omega))
  refine own_aloadN X73 hx hby d7_26 rfl rfl rfl ?_
  refine own_iloadN X73 hx hby d7_27 rfl rfl ?_
  refine own_iload X73 hx hby d7_28 rfl rfl ?_
  refine own_i2b X73 hx hby d7_30 rfl ?_
  refine own_bastore X73 hx hby hZ z1.toInt8.toInt32 (own_narb _) e73 V73 (by decide) 1 rfl (show 1 < 2 by decide) [(.int z0.toInt8.toInt32), (.int z1.toInt8.toInt32)] rfl (fits_nar_byte _) N73 gx d7_31 rfl (fun T77 h77 L77 X77 e77 W77 V77 N77 => ?_)
  refine own_iinc X77 hx hby d7_32 rfl (1 : Int32) rfl #[.val (.ref x0), .val (.int (2 : Int32)), .val (.ref x2), .val (.int (1 : Int32)), .val (.int (2 : Int32)), .val (.int (1 : Int32)), .val (.int z1)] rfl rfl ?_
  refine own_iinc X77 hx hby d7_35 rfl (1 : Int32) rfl #[.val (.ref x0), .val (.int (2 : Int32)), .val (.ref x2), .val (.int (2 : Int32)), .val (.int (2 : Int32)), .val (.int (1 : Int32)), .val (.int z1)] rfl rfl ?_
  refine own_iinc X77 hx hby d7_38 rfl (1 : Int32) rfl #[.val (.ref x0), .val (.int (2 : Int32)), .val (.ref x2), .val (.int (2 : Int32)), .val (.int (2 : Int32)), .val (.int (2 : Int32)), .val (.int z1)] rfl rfl ?_
  refine own_goto X77 hx hby d7_41 (pc' := 3) (by decide) ?_
  refine own_iload X77 hx hby d7_3 rfl rfl ?_
  refine own_iload X77 hx hby d7_5 rfl rfl ?_
  refine own_icmp_ge X77 hx hby d7_7 (pcY := 44) (pcN := 10) (by decide) rfl (fun (hc78 : 2 ≤ 2) => ?_) (fun (hc78 : 2 < 2) => False.elim (by exact absurd hc78 (by decide)))
  refine own_iload X77 hx hby d7_44 rfl rfl ?_
  refine own_ret X77 hx hby hret hlk d7_46 (.int (2 : Int32)) rfl (Or.inl ⟨rfl, by simp, _, rfl⟩) (by decide) (by decide) ?_
  have f79 := (((Keep.refl h0 [x2]).wr W73 (Or.inl (by simp))).wr W77 (Or.inl (by simp)))
  rw [e77]
  exact ⟨rfl, N77, f79, V77⟩
set_option maxRecDepth 65536 in
set_option maxHeartbeats 40000000 in
theorem rmc2_3 (l : Launch) (Z : State) (a0 : Array Value) (hw : ∀ d ∈ tables_1, d.before a0 Z = true) (x0 : Addr) (x2 : Addr) (h0 : Heap) (n0 : Nat) {ka kb : ClassId} {z0 z1 z2 : Int32} (gx : n0 ≤ x2) (nx : x0 ≠ x2) (hz0 : z0.toInt ≤ 255) (hz1 : z1.toInt ≤ 255) (hz2 : z2.toInt ≤ 255) (Va : Arv Z h0 x0 ka .char (3 : Int32) [(.int z0), (.int z1), (.int z2)] (.int 0)) (Vb : Arv Z h0 x2 kb .byte (3 : Int32) [(.int (0 : Int32)), (.int (0 : Int32)), (.int (0 : Int32))] (.int 0)) :
    OwnMet l Z (⟨"java/lang/StringUTF16", "compress", "([CI[BII)I"⟩ : MethodName) jdk_52_method_21_code 7 (some .int) [] ({ frames := 0, cells := 0, slots := 0, locals := 0 } : Room) #[(.ref x0), (.int (0 : Int32)), (.ref x2), (.int (0 : Int32)), (.int (3 : Int32))] h0 (fun v h L => v = some (.int (3 : Int32)) ∧ Fr n0 L ∧ Keep h0 h [x2] ∧ Arv Z h x2 kb .byte (3 : Int32) [(.int z0.toInt8.toInt32), (.int z1.toInt8.toInt32), (.int z2.toInt8.toInt32)] (.int 0)) := by
  refine own_body (plainFor_of_name pn_2) (fun m => ef_c2_3 m x0 x2) ?_
  intro p e s m below meth c s₁ X0 hx hby hml hown hnm hret hlk hZ e0
  replace hown : s.vm.findClass "java/lang/StringUTF16" = some m.cls := hown
  replace hml : c.maxLocals = 7 := hml
  have N0 := Fr.nil n0
  show Ends p.tables e below _ (s₁.setTop (mkF m 0 #[.val (.ref x0), .val (.int (0 : Int32)), .val (.ref x2), .val (.int (0 : Int32)), .val (.int (3 : Int32)), .unset, .unset] []))
  refine own_iconst X0 hx hby d7_0 rfl (0 : Int32) rfl ?_
  refine own_istore X0 hx hby d7_1 rfl #[.val (.ref x0), .val (.int (0 : Int32)), .val (.ref x2), .val (.int (0 : Int32)), .val (.int (3 : Int32)), .val (.int (0 : Int32)), .unset] rfl ?_
  refine own_iload X0 hx hby d7_3 rfl rfl ?_
  refine own_iload X0 hx hby d7_5 rfl rfl ?_
  refine own_icmp_ge X0 hx hby d7_7 (pcY := 44) (pcN := 10) (by decide) rfl (fun (hc80 : 3 ≤ 0) => False.elim (by exact absurd hc80 (by decide))) (fun (hc80 : 0 < 3) => ?_)
  refine own_aloadN X0 hx hby d7_10 rfl rfl rfl ?_
  refine own_iloadN X0 hx hby d7_11 rfl rfl ?_
  refine own_caload X0 hx hby hZ z0 e0 Va (by decide) rfl d7_12 rfl ?_
  refine own_istore X0 hx hby d7_13 rfl #[.val (.ref x0), .val (.int (0 : Int32)), .val (.ref x2), .val (.int (0 : Int32)), .val (.int (3 : Int32)), .val (.int (0 : Int32)), .val (.int z0)] rfl ?_
  refine own_iload X0 hx hby d7_15 rfl rfl ?_
  refine own_sipush X0 hx hby d7_17 rfl (255 : Int32) rfl ?_
  refine own_icmp_le X0 hx hby d7_20 (pcY := 26) (pcN := 23) (by decide) rfl (fun (hc81 : z0.toInt ≤ 255) => ?_) (fun (hc81 : 255 < z0.toInt) => False.elim (by have k5 : (255 : Int32).toInt = 255 := rfl; omega))
  refine own_aloadN X0 hx hby d7_26 rfl rfl rfl ?_
  refine own_iloadN X0 hx hby d7_27 rfl rfl ?_
  refine own_iload X0 hx hby d7_28 rfl rfl ?_
  refine own_i2b X0 hx hby d7_30 rfl ?_
  refine own_bastore X0 hx hby hZ z0.toInt8.toInt32 (own_narb _) e0 Vb (by decide) 0 rfl (show 0 < 3 by decide) [(.int z0.toInt8.toInt32), (.int (0 : Int32)), (.int (0 : Int32))] rfl (fits_nar_byte _) N0 gx d7_31 rfl (fun T82 h82 L82 X82 e82 W82 V82 N82 => ?_)
  refine own_iinc X82 hx hby d7_32 rfl (1 : Int32) rfl #[.val (.ref x0), .val (.int (1 : Int32)), .val (.ref x2), .val (.int (0 : Int32)), .val (.int (3 : Int32)), .val (.int (0 : Int32)), .val (.int z0)] rfl rfl ?_
  refine own_iinc X82 hx hby d7_35 rfl (1 : Int32) rfl #[.val (.ref x0), .val (.int (1 : Int32)), .val (.ref x2), .val (.int (1 : Int32)), .val (.int (3 : Int32)), .val (.int (0 : Int32)), .val (.int z0)] rfl rfl ?_
  refine own_iinc X82 hx hby d7_38 rfl (1 : Int32) rfl #[.val (.ref x0), .val (.int (1 : Int32)), .val (.ref x2), .val (.int (1 : Int32)), .val (.int (3 : Int32)), .val (.int (1 : Int32)), .val (.int z0)] rfl rfl ?_
  refine own_goto X82 hx hby d7_41 (pc' := 3) (by decide) ?_
  refine own_iload X82 hx hby d7_3 rfl rfl ?_
  refine own_iload X82 hx hby d7_5 rfl rfl ?_
  refine own_icmp_ge X82 hx hby d7_7 (pcY := 44) (pcN := 10) (by decide) rfl (fun (hc83 : 3 ≤ 1) => False.elim (by exact absurd hc83 (by decide))) (fun (hc83 : 1 < 3) => ?_)
  refine own_aloadN X82 hx hby d7_10 rfl rfl rfl ?_
  refine own_iloadN X82 hx hby d7_11 rfl rfl ?_
  have f84 := (Va.other W82 nx)
  refine own_caload X82 hx hby hZ z1 e82 f84 (by decide) rfl d7_12 rfl ?_
  refine own_istore X82 hx hby d7_13 rfl #[.val (.ref x0), .val (.int (1 : Int32)), .val (.ref x2), .val (.int (1 : Int32)), .val (.int (3 : Int32)), .val (.int (1 : Int32)), .val (.int z1)] rfl ?_
  refine own_iload X82 hx hby d7_15 rfl rfl ?_
  refine own_sipush X82 hx hby d7_17 rfl (255 : Int32) rfl ?_
  refine own_icmp_le X82 hx hby d7_20 (pcY := 26) (pcN := 23) (by decide) rfl (fun (hc85 : z1.toInt ≤ 255) => ?_) (fun (hc85 : 255 < z1.toInt) => False.elim (by have k5 : (255 : Int32).toInt = 255 := rfl; omega))
  refine own_aloadN X82 hx hby d7_26 rfl rfl rfl ?_
  refine own_iloadN X82 hx hby d7_27 rfl rfl ?_
  refine own_iload X82 hx hby d7_28 rfl rfl ?_
  refine own_i2b X82 hx hby d7_30 rfl ?_
  refine own_bastore X82 hx hby hZ z1.toInt8.toInt32 (own_narb _) e82 V82 (by decide) 1 rfl (show 1 < 3 by decide) [(.int z0.toInt8.toInt32), (.int z1.toInt8.toInt32), (.int (0 : Int32))] rfl (fits_nar_byte _) N82 gx d7_31 rfl (fun T86 h86 L86 X86 e86 W86 V86 N86 => ?_)
  refine own_iinc X86 hx hby d7_32 rfl (1 : Int32) rfl #[.val (.ref x0), .val (.int (2 : Int32)), .val (.ref x2), .val (.int (1 : Int32)), .val (.int (3 : Int32)), .val (.int (1 : Int32)), .val (.int z1)] rfl rfl ?_
  refine own_iinc X86 hx hby d7_35 rfl (1 : Int32) rfl #[.val (.ref x0), .val (.int (2 : Int32)), .val (.ref x2), .val (.int (2 : Int32)), .val (.int (3 : Int32)), .val (.int (1 : Int32)), .val (.int z1)] rfl rfl ?_
  refine own_iinc X86 hx hby d7_38 rfl (1 : Int32) rfl #[.val (.ref x0), .val (.int (2 : Int32)), .val (.ref x2), .val (.int (2 : Int32)), .val (.int (3 : Int32)), .val (.int (2 : Int32)), .val (.int z1)] rfl rfl ?_
  refine own_goto X86 hx hby d7_41 (pc' := 3) (by decide) ?_
  refine own_iload X86 hx hby d7_3 rfl rfl ?_
  refine own_iload X86 hx hby d7_5 rfl rfl ?_
  refine own_icmp_ge X86 hx hby d7_7 (pcY := 44) (pcN := 10) (by decide) rfl (fun (hc87 : 3 ≤ 2) => False.elim (by exact absurd hc87 (by decide))) (fun (hc87 : 2 < 3) => ?_)
  refine own_aloadN X86 hx hby d7_10 rfl rfl rfl ?_
  refine own_iloadN X86 hx hby d7_11 rfl rfl ?_
  have f88 := (f84.other W86 nx)
  refine own_caload X86 hx hby hZ z2 e86 f88 (by decide) rfl d7_12 rfl ?_
  refine own_istore X86 hx hby d7_13 rfl #[.val (.ref x0), .val (.int (2 : Int32)), .val (.ref x2), .val (.int (2 : Int32)), .val (.int (3 : Int32)), .val (.int (2 : Int32)), .val (.int z2)] rfl ?_
  refine own_iload X86 hx hby d7_15 rfl rfl ?_
  refine own_sipush X86 hx hby d7_17 rfl (255 : Int32) rfl ?_
  refine own_icmp_le X86 hx hby d7_20 (pcY := 26) (pcN := 23) (by decide) rfl (fun (hc89 : z2.toInt ≤ 255) => ?_) (fun (hc89 : 255 < z2.toInt) => False.elim (by have k5 : (255 : Int32).toInt = 255 := rfl; omega))
  refine own_aloadN X86 hx hby d7_26 rfl rfl rfl ?_
  refine own_iloadN X86 hx hby d7_27 rfl rfl ?_
  refine own_iload X86 hx hby d7_28 rfl rfl ?_
  refine own_i2b X86 hx hby d7_30 rfl ?_
  refine own_bastore X86 hx hby hZ z2.toInt8.toInt32 (own_narb _) e86 V86 (by decide) 2 rfl (show 2 < 3 by decide) [(.int z0.toInt8.toInt32), (.int z1.toInt8.toInt32), (.int z2.toInt8.toInt32)] rfl (fits_nar_byte _) N86 gx d7_31 rfl (fun T90 h90 L90 X90 e90 W90 V90 N90 => ?_)
  refine own_iinc X90 hx hby d7_32 rfl (1 : Int32) rfl #[.val (.ref x0), .val (.int (3 : Int32)), .val (.ref x2), .val (.int (2 : Int32)), .val (.int (3 : Int32)), .val (.int (2 : Int32)), .val (.int z2)] rfl rfl ?_
  refine own_iinc X90 hx hby d7_35 rfl (1 : Int32) rfl #[.val (.ref x0), .val (.int (3 : Int32)), .val (.ref x2), .val (.int (3 : Int32)), .val (.int (3 : Int32)), .val (.int (2 : Int32)), .val (.int z2)] rfl rfl ?_
  refine own_iinc X90 hx hby d7_38 rfl (1 : Int32) rfl #[.val (.ref x0), .val (.int (3 : Int32)), .val (.ref x2), .val (.int (3 : Int32)), .val (.int (3 : Int32)), .val (.int (3 : Int32)), .val (.int z2)] rfl rfl ?_
  refine own_goto X90 hx hby d7_41 (pc' := 3) (by decide) ?_
  refine own_iload X90 hx hby d7_3 rfl rfl ?_
  refine own_iload X90 hx hby d7_5 rfl rfl ?_
  refine own_icmp_ge X90 hx hby d7_7 (pcY := 44) (pcN := 10) (by decide) rfl (fun (hc91 : 3 ≤ 3) => ?_) (fun (hc91 : 3 < 3) => False.elim (by exact absurd hc91 (by decide)))
  refine own_iload X90 hx hby d7_44 rfl rfl ?_
  refine own_ret X90 hx hby hret hlk d7_46 (.int (3 : Int32)) rfl (Or.inl ⟨rfl, by simp, _, rfl⟩) (by decide) (by decide) ?_
  have f92 := ((((Keep.refl h0 [x2]).wr W82 (Or.inl (by simp))).wr W86 (Or.inl (by simp))).wr W90 (Or.inl (by simp)))
  rw [e90]
  exact ⟨rfl, N90, f92, V90⟩
set_option maxRecDepth 65536 in
set_option maxHeartbeats 40000000 in
theorem rmc2_4 (l : Launch) (Z : State) (a0 : Array Value) (hw : ∀ d ∈ tables_1, d.before a0 Z = true) (x0 : Addr) (x2 : Addr) (h0 : Heap) (n0 : Nat) {ka kb : ClassId} {z0 z1 z2 z3 : Int32} (gx : n0 ≤ x2) (nx : x0 ≠ x2) (hz0 : z0.toInt ≤ 255) (hz1 : z1.toInt ≤ 255) (hz2 : z2.toInt ≤ 255) (hz3 : z3.toInt ≤ 255) (Va : Arv Z h0 x0 ka .char (4 : Int32) [(.int z0), (.int z1), (.int z2), (.int z3)] (.int 0)) (Vb : Arv Z h0 x2 kb .byte (4 : Int32) [(.int (0 : Int32)), (.int (0 : Int32)), (.int (0 : Int32)), (.int (0 : Int32))] (.int 0)) :
    OwnMet l Z (⟨"java/lang/StringUTF16", "compress", "([CI[BII)I"⟩ : MethodName) jdk_52_method_21_code 7 (some .int) [] ({ frames := 0, cells := 0, slots := 0, locals := 0 } : Room) #[(.ref x0), (.int (0 : Int32)), (.ref x2), (.int (0 : Int32)), (.int (4 : Int32))] h0 (fun v h L => v = some (.int (4 : Int32)) ∧ Fr n0 L ∧ Keep h0 h [x2] ∧ Arv Z h x2 kb .byte (4 : Int32) [(.int z0.toInt8.toInt32), (.int z1.toInt8.toInt32), (.int z2.toInt8.toInt32), (.int z3.toInt8.toInt32)] (.int 0)) := by
  refine own_body (plainFor_of_name pn_2) (fun m => ef_c2_4 m x0 x2) ?_
  intro p e s m below meth c s₁ X0 hx hby hml hown hnm hret hlk hZ e0
  replace hown : s.vm.findClass "java/lang/StringUTF16" = some m.cls := hown
  replace hml : c.maxLocals = 7 := hml
  have N0 := Fr.nil n0
  show Ends p.tables e below _ (s₁.setTop (mkF m 0 #[.val (.ref x0), .val (.int (0 : Int32)), .val (.ref x2), .val (.int (0 : Int32)), .val (.int (4 : Int32)), .unset, .unset] []))
  refine own_iconst X0 hx hby d7_0 rfl (0 : Int32) rfl ?_
  refine own_istore X0 hx hby d7_1 rfl #[.val (.ref x0), .val (.int (0 : Int32)), .val (.ref x2), .val (.int (0 : Int32)), .val (.int (4 : Int32)), .val (.int (0 : Int32)), .unset] rfl ?_
  refine own_iload X0 hx hby d7_3 rfl rfl ?_
  refine own_iload X0 hx hby d7_5 rfl rfl ?_
  refine own_icmp_ge X0 hx hby d7_7 (pcY := 44) (pcN := 10) (by decide) rfl (fun (hc93 : 4 ≤ 0) => False.elim (by exact absurd hc93 (by decide))) (fun (hc93 : 0 < 4) => ?_)
  refine own_aloadN X0 hx hby d7_10 rfl rfl rfl ?_
  refine own_iloadN X0 hx hby d7_11 rfl rfl ?_
  refine own_caload X0 hx hby hZ z0 e0 Va (by decide) rfl d7_12 rfl ?_
  refine own_istore X0 hx hby d7_13 rfl #[.val (.ref x0), .val (.int (0 : Int32)), .val (.ref x2), .val (.int (0 : Int32)), .val (.int (4 : Int32)), .val (.int (0 : Int32)), .val (.int z0)] rfl ?_
  refine own_iload X0 hx hby d7_15 rfl rfl ?_
  refine own_sipush X0 hx hby d7_17 rfl (255 : Int32) rfl ?_
  refine own_icmp_le X0 hx hby d7_20 (pcY := 26) (pcN := 23) (by decide) rfl (fun (hc94 : z0.toInt ≤ 255) => ?_) (fun (hc94 : 255 < z0.toInt) => False.elim (by have k5 : (255 : Int32).toInt = 255 := rfl; omega))
  refine own_aloadN X0 hx hby d7_26 rfl rfl rfl ?_
  refine own_iloadN X0 hx hby d7_27 rfl rfl ?_
  refine own_iload X0 hx hby d7_28 rfl rfl ?_
  refine own_i2b X0 hx hby d7_30 rfl ?_
  refine own_bastore X0 hx hby hZ z0.toInt8.toInt32 (own_narb _) e0 Vb (by decide) 0 rfl (show 0 < 4 by decide) [(.int z0.toInt8.toInt32), (.int (0 : Int32)), (.int (0 : Int32)), (.int (0 : Int32))] rfl (fits_nar_byte _) N0 gx d7_31 rfl (fun T95 h95 L95 X95 e95 W95 V95 N95 => ?_)
  refine own_iinc X95 hx hby d7_32 rfl (1 : Int32) rfl #[.val (.ref x0), .val (.int (1 : Int32)), .val (.ref x2), .val (.int (0 : Int32)), .val (.int (4 : Int32)), .val (.int (0 : Int32)), .val (.int z0)] rfl rfl ?_
  refine own_iinc X95 hx hby d7_35 rfl (1 : Int32) rfl #[.val (.ref x0), .val (.int (1 : Int32)), .val (.ref x2), .val (.int (1 : Int32)), .val (.int (4 : Int32)), .val (.int (0 : Int32)), .val (.int z0)] rfl rfl ?_
  refine own_iinc X95 hx hby d7_38 rfl (1 : Int32) rfl #[.val (.ref x0), .val (.int (1 : Int32)), .val (.ref x2), .val (.int (1 : Int32)), .val (.int (4 : Int32)), .val (.int (1 : Int32)), .val (.int z0)] rfl rfl ?_
  refine own_goto X95 hx hby d7_41 (pc' := 3) (by decide) ?_
  refine own_iload X95 hx hby d7_3 rfl rfl ?_
  refine own_iload X95 hx hby d7_5 rfl rfl ?_
  refine own_icmp_ge X95 hx hby d7_7 (pcY := 44) (pcN := 10) (by decide) rfl (fun (hc96 : 4 ≤ 1) => False.elim (by exact absurd hc96 (by decide))) (fun (hc96 : 1 < 4) => ?_)
  refine own_aloadN X95 hx hby d7_10 rfl rfl rfl ?_
  refine own_iloadN X95 hx hby d7_11 rfl rfl ?_
  have f97 := (Va.other W95 nx)
  refine own_caload X95 hx hby hZ z1 e95 f97 (by decide) rfl d7_12 rfl ?_
  refine own_istore X95 hx hby d7_13 rfl #[.val (.ref x0), .val (.int (1 : Int32)), .val (.ref x2), .val (.int (1 : Int32)), .val (.int (4 : Int32)), .val (.int (1 : Int32)), .val (.int z1)] rfl ?_
  refine own_iload X95 hx hby d7_15 rfl rfl ?_
  refine own_sipush X95 hx hby d7_17 rfl (255 : Int32) rfl ?_
  refine own_icmp_le X95 hx hby d7_20 (pcY := 26) (pcN := 23) (by decide) rfl (fun (hc98 : z1.toInt ≤ 255) => ?_) (fun (hc98 : 255 < z1.toInt) => False.elim (by have k5 : (255 : Int32).toInt = 255 := rfl; omega))
  refine own_aloadN X95 hx hby d7_26 rfl rfl rfl ?_
  refine own_iloadN X95 hx hby d7_27 rfl rfl ?_
  refine own_iload X95 hx hby d7_28 rfl rfl ?_
  refine own_i2b X95 hx hby d7_30 rfl ?_
  refine own_bastore X95 hx hby hZ z1.toInt8.toInt32 (own_narb _) e95 V95 (by decide) 1 rfl (show 1 < 4 by decide) [(.int z0.toInt8.toInt32), (.int z1.toInt8.toInt32), (.int (0 : Int32)), (.int (0 : Int32))] rfl (fits_nar_byte _) N95 gx d7_31 rfl (fun T99 h99 L99 X99 e99 W99 V99 N99 => ?_)
  refine own_iinc X99 hx hby d7_32 rfl (1 : Int32) rfl #[.val (.ref x0), .val (.int (2 : Int32)), .val (.ref x2), .val (.int (1 : Int32)), .val (.int (4 : Int32)), .val (.int (1 : Int32)), .val (.int z1)] rfl rfl ?_
  refine own_iinc X99 hx hby d7_35 rfl (1 : Int32) rfl #[.val (.ref x0), .val (.int (2 : Int32)), .val (.ref x2), .val (.int (2 : Int32)), .val (.int (4 : Int32)), .val (.int (1 : Int32)), .val (.int z1)] rfl rfl ?_
  refine own_iinc X99 hx hby d7_38 rfl (1 : Int32) rfl #[.val (.ref x0), .val (.int (2 : Int32)), .val (.ref x2), .val (.int (2 : Int32)), .val (.int (4 : Int32)), .val (.int (2 : Int32)), .val (.int z1)] rfl rfl ?_
  refine own_goto X99 hx hby d7_41 (pc' := 3) (by decide) ?_
  refine own_iload X99 hx hby d7_3 rfl rfl ?_
  refine own_iload X99 hx hby d7_5 rfl rfl ?_
  refine own_icmp_ge X99 hx hby d7_7 (pcY := 44) (pcN := 10) (by decide) rfl (fun (hc100 : 4 ≤ 2) => False.elim (by exact absurd hc100 (by decide))) (fun (hc100 : 2 < 4) => ?_)
  refine own_aloadN X99 hx hby d7_10 rfl rfl rfl ?_
  refine own_iloadN X99 hx hby d7_11 rfl rfl ?_
  have f101 := (f97.other W99 nx)
  refine own_caload X99 hx hby hZ z2 e99 f101 (by decide) rfl d7_12 rfl ?_
  refine own_istore X99 hx hby d7_13 rfl #[.val (.ref x0), .val (.int (2 : Int32)), .val (.ref x2), .val (.int (2 : Int32)), .val (.int (4 : Int32)), .val (.int (2 : Int32)), .val (.int z2)] rfl ?_
  refine own_iload X99 hx hby d7_15 rfl rfl ?_
  refine own_sipush X99 hx hby d7_17 rfl (255 : Int32) rfl ?_
  refine own_icmp_le X99 hx hby d7_20 (pcY := 26) (pcN := 23) (by decide) rfl (fun (hc102 : z2.toInt ≤ 255) => ?_) (fun (hc102 : 255 < z2.toInt) => False.elim (by have k5 : (255 : Int32).toInt = 255 := rfl; omega))
  refine own_aloadN X99 hx hby d7_26 rfl rfl rfl ?_
  refine own_iloadN X99 hx hby d7_27 rfl rfl ?_
  refine own_iload X99 hx hby d7_28 rfl rfl ?_
  refine own_i2b X99 hx hby d7_30 rfl ?_
  refine own_bastore X99 hx hby hZ z2.toInt8.toInt32 (own_narb _) e99 V99 (by decide) 2 rfl (show 2 < 4 by decide) [(.int z0.toInt8.toInt32), (.int z1.toInt8.toInt32), (.int z2.toInt8.toInt32), (.int (0 : Int32))] rfl (fits_nar_byte _) N99 gx d7_31 rfl (fun T103 h103 L103 X103 e103 W103 V103 N103 => ?_)
  refine own_iinc X103 hx hby d7_32 rfl (1 : Int32) rfl #[.val (.ref x0), .val (.int (3 : Int32)), .val (.ref x2), .val (.int (2 : Int32)), .val (.int (4 : Int32)), .val (.int (2 : Int32)), .val (.int z2)] rfl rfl ?_
  refine own_iinc X103 hx hby d7_35 rfl (1 : Int32) rfl #[.val (.ref x0), .val (.int (3 : Int32)), .val (.ref x2), .val (.int (3 : Int32)), .val (.int (4 : Int32)), .val (.int (2 : Int32)), .val (.int z2)] rfl rfl ?_
  refine own_iinc X103 hx hby d7_38 rfl (1 : Int32) rfl #[.val (.ref x0), .val (.int (3 : Int32)), .val (.ref x2), .val (.int (3 : Int32)), .val (.int (4 : Int32)), .val (.int (3 : Int32)), .val (.int z2)] rfl rfl ?_
  refine own_goto X103 hx hby d7_41 (pc' := 3) (by decide) ?_
  refine own_iload X103 hx hby d7_3 rfl rfl ?_
  refine own_iload X103 hx hby d7_5 rfl rfl ?_
  refine own_icmp_ge X103 hx hby d7_7 (pcY := 44) (pcN := 10) (by decide) rfl (fun (hc104 : 4 ≤ 3) => False.elim (by exact absurd hc104 (by decide))) (fun (hc104 : 3 < 4) => ?_)
  refine own_aloadN X103 hx hby d7_10 rfl rfl rfl ?_
  refine own_iloadN X103 hx hby d7_11 rfl rfl ?_
  have f105 := (f101.other W103 nx)
  refine own_caload X103 hx hby hZ z3 e103 f105 (by decide) rfl d7_12 rfl ?_
  refine own_istore X103 hx hby d7_13 rfl #[.val (.ref x0), .val (.int (3 : Int32)), .val (.ref x2), .val (.int (3 : Int32)), .val (.int (4 : Int32)), .val (.int (3 : Int32)), .val (.int z3)] rfl ?_
  refine own_iload X103 hx hby d7_15 rfl rfl ?_
  refine own_sipush X103 hx hby d7_17 rfl (255 : Int32) rfl ?_
  refine own_icmp_le X103 hx hby d7_20 (pcY := 26) (pcN := 23) (by decide) rfl (fun (hc106 : z3.toInt ≤ 255) => ?_) (fun (hc106 : 255 < z3.toInt) => False.elim (by have k5 : (255 : Int32).toInt = 255 := rfl; omega))
  refine own_aloadN X103 hx hby d7_26 rfl rfl rfl ?_
  refine own_iloadN X103 hx hby d7_27 rfl rfl ?_
  refine own_iload X103 hx hby d7_28 rfl rfl ?_
  refine own_i2b X103 hx hby d7_30 rfl ?_
  refine own_bastore X103 hx hby hZ z3.toInt8.toInt32 (own_narb _) e103 V103 (by decide) 3 rfl (show 3 < 4 by decide) [(.int z0.toInt8.toInt32), (.int z1.toInt8.toInt32), (.int z2.toInt8.toInt32), (.int z3.toInt8.toInt32)] rfl (fits_nar_byte _) N103 gx d7_31 rfl (fun T107 h107 L107 X107 e107 W107 V107 N107 => ?_)
  refine own_iinc X107 hx hby d7_32 rfl (1 : Int32) rfl #[.val (.ref x0), .val (.int (4 : Int32)), .val (.ref x2), .val (.int (3 : Int32)), .val (.int (4 : Int32)), .val (.int (3 : Int32)), .val (.int z3)] rfl rfl ?_
  refine own_iinc X107 hx hby d7_35 rfl (1 : Int32) rfl #[.val (.ref x0), .val (.int (4 : Int32)), .val (.ref x2), .val (.int (4 : Int32)), .val (.int (4 : Int32)), .val (.int (3 : Int32)), .val (.int z3)] rfl rfl ?_
  refine own_iinc X107 hx hby d7_38 rfl (1 : Int32) rfl #[.val (.ref x0), .val (.int (4 : Int32)), .val (.ref x2), .val (.int (4 : Int32)), .val (.int (4 : Int32)), .val (.int (4 : Int32)), .val (.int z3)] rfl rfl ?_
  refine own_goto X107 hx hby d7_41 (pc' := 3) (by decide) ?_
  refine own_iload X107 hx hby d7_3 rfl rfl ?_
  refine own_iload X107 hx hby d7_5 rfl rfl ?_
  refine own_icmp_ge X107 hx hby d7_7 (pcY := 44) (pcN := 10) (by decide) rfl (fun (hc108 : 4 ≤ 4) => ?_) (fun (hc108 : 4 < 4) => False.elim (by exact absurd hc108 (by decide)))
  refine own_iload X107 hx hby d7_44 rfl rfl ?_
  refine own_ret X107 hx hby hret hlk d7_46 (.int (4 : Int32)) rfl (Or.inl ⟨rfl, by simp, _, rfl⟩) (by decide) (by decide) ?_
  have f109 := (((((Keep.refl h0 [x2]).wr W95 (Or.inl (by simp))).wr W99 (Or.inl (by simp))).wr W103 (Or.inl (by simp))).wr W107 (Or.inl (by simp)))
  rw [e107]
  exact ⟨rfl, N107, f109, V107⟩
set_option maxRecDepth 65536 in
set_option maxHeartbeats 40000000 in
theorem rmc1_1 (l : Launch) (Z : State) (a0 : Array Value) (hw : ∀ d ∈ tables_1, d.before a0 Z = true) (x0 : Addr) (h0 : Heap) (n0 : Nat) {ka : ClassId} {z0 : Int32} (O : Old Z n0 h0) (hz0 : z0.toInt ≤ 255) (Va : Arv Z h0 x0 ka .char (1 : Int32) [(.int z0)] (.int 0)) :
    OwnMet l Z (⟨"java/lang/StringUTF16", "compress", "([CII)[B"⟩ : MethodName) jdk_52_method_16_code 6 (some (.array .byte)) [] ({ frames := 1, cells := 1, slots := 1, locals := 18 } : Room) #[(.ref x0), (.int (0 : Int32)), (.int (1 : Int32))] h0 (fun v h L => ∃ b k, v = some (.ref b) ∧ Fr n0 L ∧ Keep h0 h [] ∧ h0.size ≤ b ∧ n0 ≤ b ∧ Arv Z h b k .byte (1 : Int32) [(.int z0.toInt8.toInt32)] (.int 0)) := by
  refine own_body (plainFor_of_name pn_2) (fun m => ef_c1_1 m x0) ?_
  intro p e s m below meth c s₁ X0 hx hby hml hown hnm hret hlk hZ e0
  replace hown : s.vm.findClass "java/lang/StringUTF16" = some m.cls := hown
  replace hml : c.maxLocals = 6 := hml
  have N0 := Fr.nil n0
  show Ends p.tables e below _ (s₁.setTop (mkF m 0 #[.val (.ref x0), .val (.int (0 : Int32)), .val (.int (1 : Int32)), .unset, .unset, .unset] []))
  refine own_iloadN X0 hx hby d6_0 rfl rfl ?_
  refine own_newarray X0 hx hby hZ (aty := .byte) (hw _ tw_19) e0 (by decide) 1 (by decide) (by decide) (by decide) (by decide) .byte rfl [(.int (0 : Int32))] rfl d6_1 rfl (fun T110 h110 b110 k110 X110 e110 g110 E110 V110 => ?_)
  have ge_b110 : n0 ≤ b110 := own_ge O g110
  have sz_b110 : h0.size ≤ b110 := Nat.le_trans (Keep.refl h0 []).1 (Nat.le_of_eq g110.symm)
  have ne_x0_b110 : x0 ≠ b110 := own_lt Va.lt g110
  refine own_astoreN X110 hx hby d6_3 rfl #[.val (.ref x0), .val (.int (0 : Int32)), .val (.int (1 : Int32)), .val (.ref b110), .unset, .unset] rfl rfl ?_
  refine own_aloadN X110 hx hby d6_4 rfl rfl rfl ?_
  refine own_iloadN X110 hx hby d6_5 rfl rfl ?_
  refine own_aloadN X110 hx hby d6_6 rfl rfl rfl ?_
  refine own_iconst X110 hx hby d6_7 rfl (0 : Int32) rfl ?_
  refine own_iloadN X110 hx hby d6_8 rfl rfl ?_
  have f112 := (Va.ext E110)
  refine own_static X110 hx hby hZ (argsL := [(.ref x0), (.int (0 : Int32)), (.ref b110), (.int (0 : Int32)), (.int (1 : Int32))]) (rest := []) hown (hw _ tw_34) (hw _ tw_35) (hw _ tw_32) (hw _ tw_36) (by decide) (rmc2_1 l Z a0 hw x0 b110 h110 n0 ge_b110 ne_x0_b110 hz0 f112 V110) e110 (by rw [hml]; rfl) pd_2 rfl (by decide) (W := 0) (Nat.le_refl _) (by decide) (by decide) (by decide) d6_9 rfl rfl (fun v111 T111 L111 X111 hQ111 => ?_)
  obtain ⟨rfl, N111q, K111, V111⟩ := hQ111
  show Ends p.tables e below _ (T111.setTop (mkF m 12 #[.val (.ref x0), .val (.int (0 : Int32)), .val (.int (1 : Int32)), .val (.ref b110), .unset, .unset] [(.int (1 : Int32))]))
  refine own_istore X111 hx hby d6_12 rfl #[.val (.ref x0), .val (.int (0 : Int32)), .val (.int (1 : Int32)), .val (.ref b110), .val (.int (1 : Int32)), .unset] rfl ?_
  refine own_iload X111 hx hby d6_14 rfl rfl ?_
  refine own_iloadN X111 hx hby d6_16 rfl rfl ?_
  refine own_icmp_eq X111 hx hby d6_17 (pcY := 57) (pcN := 20) (by decide) rfl (fun (hc113 : (1 : Int32) = (1 : Int32)) => ?_) (fun (hc113 : ¬ (1 : Int32) = (1 : Int32)) => False.elim (by exact absurd hc113 (by decide)))
  refine own_aloadN X111 hx hby d6_57 rfl rfl rfl ?_
  refine own_ret X111 hx hby hret hlk d6_58 (.ref b110) rfl (Or.inr (Or.inr ⟨rfl, rfl, rfl⟩)) (by decide) (by decide) ?_
  have f114 := (((Keep.refl h0 []).ext E110).trans K111 (allS (Or.inr sz_b110) all0))
  exact ⟨b110, _, rfl, (Fr.app N0 N111q), f114, sz_b110, ge_b110, V111⟩
set_option maxRecDepth 65536 in
set_option maxHeartbeats 40000000 in
theorem rmc1_2 (l : Launch) (Z : State) (a0 : Array Value) (hw : ∀ d ∈ tables_1, d.before a0 Z = true) (x0 : Addr) (h0 : Heap) (n0 : Nat) {ka : ClassId} {z0 z1 : Int32} (O : Old Z n0 h0) (hz0 : z0.toInt ≤ 255) (hz1 : z1.toInt ≤ 255) (Va : Arv Z h0 x0 ka .char (2 : Int32) [(.int z0), (.int z1)] (.int 0)) :
    OwnMet l Z (⟨"java/lang/StringUTF16", "compress", "([CII)[B"⟩ : MethodName) jdk_52_method_16_code 6 (some (.array .byte)) [] ({ frames := 1, cells := 1, slots := 2, locals := 18 } : Room) #[(.ref x0), (.int (0 : Int32)), (.int (2 : Int32))] h0 (fun v h L => ∃ b k, v = some (.ref b) ∧ Fr n0 L ∧ Keep h0 h [] ∧ h0.size ≤ b ∧ n0 ≤ b ∧ Arv Z h b k .byte (2 : Int32) [(.int z0.toInt8.toInt32), (.int z1.toInt8.toInt32)] (.int 0)) := by
  refine own_body (plainFor_of_name pn_2) (fun m => ef_c1_2 m x0) ?_
  intro p e s m below meth c s₁ X0 hx hby hml hown hnm hret hlk hZ e0
  replace hown : s.vm.findClass "java/lang/StringUTF16" = some m.cls := hown
  replace hml : c.maxLocals = 6 := hml
  have N0 := Fr.nil n0
  show Ends p.tables e below _ (s₁.setTop (mkF m 0 #[.val (.ref x0), .val (.int (0 : Int32)), .val (.int (2 : Int32)), .unset, .unset, .unset] []))
  refine own_iloadN X0 hx hby d6_0 rfl rfl ?_
  refine own_newarray X0 hx hby hZ (aty := .byte) (hw _ tw_19) e0 (by decide) 2 (by decide) (by decide) (by decide) (by decide) .byte rfl [(.int (0 : Int32)), (.int (0 : Int32))] rfl d6_1 rfl (fun T115 h115 b115 k115 X115 e115 g115 E115 V115 => ?_)
  have ge_b115 : n0 ≤ b115 := own_ge O g115
  have sz_b115 : h0.size ≤ b115 := Nat.le_trans (Keep.refl h0 []).1 (Nat.le_of_eq g115.symm)
  have ne_x0_b115 : x0 ≠ b115 := own_lt Va.lt g115
  refine own_astoreN X115 hx hby d6_3 rfl #[.val (.ref x0), .val (.int (0 : Int32)), .val (.int (2 : Int32)), .val (.ref b115), .unset, .unset] rfl rfl ?_
  refine own_aloadN X115 hx hby d6_4 rfl rfl rfl ?_
  refine own_iloadN X115 hx hby d6_5 rfl rfl ?_
  refine own_aloadN X115 hx hby d6_6 rfl rfl rfl ?_
  refine own_iconst X115 hx hby d6_7 rfl (0 : Int32) rfl ?_
  refine own_iloadN X115 hx hby d6_8 rfl rfl ?_
  have f117 := (Va.ext E115)
  refine own_static X115 hx hby hZ (argsL := [(.ref x0), (.int (0 : Int32)), (.ref b115), (.int (0 : Int32)), (.int (2 : Int32))]) (rest := []) hown (hw _ tw_34) (hw _ tw_35) (hw _ tw_32) (hw _ tw_36) (by decide) (rmc2_2 l Z a0 hw x0 b115 h115 n0 ge_b115 ne_x0_b115 hz0 hz1 f117 V115) e115 (by rw [hml]; rfl) pd_2 rfl (by decide) (W := 0) (Nat.le_refl _) (by decide) (by decide) (by decide) d6_9 rfl rfl (fun v116 T116 L116 X116 hQ116 => ?_)
  obtain ⟨rfl, N116q, K116, V116⟩ := hQ116
  show Ends p.tables e below _ (T116.setTop (mkF m 12 #[.val (.ref x0), .val (.int (0 : Int32)), .val (.int (2 : Int32)), .val (.ref b115), .unset, .unset] [(.int (2 : Int32))]))
  refine own_istore X116 hx hby d6_12 rfl #[.val (.ref x0), .val (.int (0 : Int32)), .val (.int (2 : Int32)), .val (.ref b115), .val (.int (2 : Int32)), .unset] rfl ?_
  refine own_iload X116 hx hby d6_14 rfl rfl ?_
  refine own_iloadN X116 hx hby d6_16 rfl rfl ?_
  refine own_icmp_eq X116 hx hby d6_17 (pcY := 57) (pcN := 20) (by decide) rfl (fun (hc118 : (2 : Int32) = (2 : Int32)) => ?_) (fun (hc118 : ¬ (2 : Int32) = (2 : Int32)) => False.elim (by exact absurd hc118 (by decide)))
  refine own_aloadN X116 hx hby d6_57 rfl rfl rfl ?_
  refine own_ret X116 hx hby hret hlk d6_58 (.ref b115) rfl (Or.inr (Or.inr ⟨rfl, rfl, rfl⟩)) (by decide) (by decide) ?_
  have f119 := (((Keep.refl h0 []).ext E115).trans K116 (allS (Or.inr sz_b115) all0))
  exact ⟨b115, _, rfl, (Fr.app N0 N116q), f119, sz_b115, ge_b115, V116⟩
set_option maxRecDepth 65536 in
set_option maxHeartbeats 40000000 in
theorem rmc1_3 (l : Launch) (Z : State) (a0 : Array Value) (hw : ∀ d ∈ tables_1, d.before a0 Z = true) (x0 : Addr) (h0 : Heap) (n0 : Nat) {ka : ClassId} {z0 z1 z2 : Int32} (O : Old Z n0 h0) (hz0 : z0.toInt ≤ 255) (hz1 : z1.toInt ≤ 255) (hz2 : z2.toInt ≤ 255) (Va : Arv Z h0 x0 ka .char (3 : Int32) [(.int z0), (.int z1), (.int z2)] (.int 0)) :
    OwnMet l Z (⟨"java/lang/StringUTF16", "compress", "([CII)[B"⟩ : MethodName) jdk_52_method_16_code 6 (some (.array .byte)) [] ({ frames := 1, cells := 1, slots := 3, locals := 18 } : Room) #[(.ref x0), (.int (0 : Int32)), (.int (3 : Int32))] h0 (fun v h L => ∃ b k, v = some (.ref b) ∧ Fr n0 L ∧ Keep h0 h [] ∧ h0.size ≤ b ∧ n0 ≤ b ∧ Arv Z h b k .byte (3 : Int32) [(.int z0.toInt8.toInt32), (.int z1.toInt8.toInt32), (.int z2.toInt8.toInt32)] (.int 0)) := by
  refine own_body (plainFor_of_name pn_2) (fun m => ef_c1_3 m x0) ?_
  intro p e s m below meth c s₁ X0 hx hby hml hown hnm hret hlk hZ e0
  replace hown : s.vm.findClass "java/lang/StringUTF16" = some m.cls := hown
  replace hml : c.maxLocals = 6 := hml
  have N0 := Fr.nil n0
  show Ends p.tables e below _ (s₁.setTop (mkF m 0 #[.val (.ref x0), .val (.int (0 : Int32)), .val (.int (3 : Int32)), .unset, .unset, .unset] []))
  refine own_iloadN X0 hx hby d6_0 rfl rfl ?_
  refine own_newarray X0 hx hby hZ (aty := .byte) (hw _ tw_19) e0 (by decide) 3 (by decide) (by decide) (by decide) (by decide) .byte rfl [(.int (0 : Int32)), (.int (0 : Int32)), (.int (0 : Int32))] rfl d6_1 rfl (fun T120 h120 b120 k120 X120 e120 g120 E120 V120 => ?_)
  have ge_b120 : n0 ≤ b120 := own_ge O g120
  have sz_b120 : h0.size ≤ b120 := Nat.le_trans (Keep.refl h0 []).1 (Nat.le_of_eq g120.symm)
  have ne_x0_b120 : x0 ≠ b120 := own_lt Va.lt g120
  refine own_astoreN X120 hx hby d6_3 rfl #[.val (.ref x0), .val (.int (0 : Int32)), .val (.int (3 : Int32)), .val (.ref b120), .unset, .unset] rfl rfl ?_
  refine own_aloadN X120 hx hby d6_4 rfl rfl rfl ?_
  refine own_iloadN X120 hx hby d6_5 rfl rfl ?_
  refine own_aloadN X120 hx hby d6_6 rfl rfl rfl ?_
  refine own_iconst X120 hx hby d6_7 rfl (0 : Int32) rfl ?_
  refine own_iloadN X120 hx hby d6_8 rfl rfl ?_
  have f122 := (Va.ext E120)
  refine own_static X120 hx hby hZ (argsL := [(.ref x0), (.int (0 : Int32)), (.ref b120), (.int (0 : Int32)), (.int (3 : Int32))]) (rest := []) hown (hw _ tw_34) (hw _ tw_35) (hw _ tw_32) (hw _ tw_36) (by decide) (rmc2_3 l Z a0 hw x0 b120 h120 n0 ge_b120 ne_x0_b120 hz0 hz1 hz2 f122 V120) e120 (by rw [hml]; rfl) pd_2 rfl (by decide) (W := 0) (Nat.le_refl _) (by decide) (by decide) (by decide) d6_9 rfl rfl (fun v121 T121 L121 X121 hQ121 => ?_)
  obtain ⟨rfl, N121q, K121, V121⟩ := hQ121
  show Ends p.tables e below _ (T121.setTop (mkF m 12 #[.val (.ref x0), .val (.int (0 : Int32)), .val (.int (3 : Int32)), .val (.ref b120), .unset, .unset] [(.int (3 : Int32))]))
  refine own_istore X121 hx hby d6_12 rfl #[.val (.ref x0), .val (.int (0 : Int32)), .val (.int (3 : Int32)), .val (.ref b120), .val (.int (3 : Int32)), .unset] rfl ?_
  refine own_iload X121 hx hby d6_14 rfl rfl ?_
  refine own_iloadN X121 hx hby d6_16 rfl rfl ?_
  refine own_icmp_eq X121 hx hby d6_17 (pcY := 57) (pcN := 20) (by decide) rfl (fun (hc123 : (3 : Int32) = (3 : Int32)) => ?_) (fun (hc123 : ¬ (3 : Int32) = (3 : Int32)) => False.elim (by exact absurd hc123 (by decide)))
  refine own_aloadN X121 hx hby d6_57 rfl rfl rfl ?_
  refine own_ret X121 hx hby hret hlk d6_58 (.ref b120) rfl (Or.inr (Or.inr ⟨rfl, rfl, rfl⟩)) (by decide) (by decide) ?_
  have f124 := (((Keep.refl h0 []).ext E120).trans K121 (allS (Or.inr sz_b120) all0))
  exact ⟨b120, _, rfl, (Fr.app N0 N121q), f124, sz_b120, ge_b120, V121⟩
set_option maxRecDepth 65536 in
set_option maxHeartbeats 40000000 in
theorem rmc1_4 (l : Launch) (Z : State) (a0 : Array Value) (hw : ∀ d ∈ tables_1, d.before a0 Z = true) (x0 : Addr) (h0 : Heap) (n0 : Nat) {ka : ClassId} {z0 z1 z2 z3 : Int32} (O : Old Z n0 h0) (hz0 : z0.toInt ≤ 255) (hz1 : z1.toInt ≤ 255) (hz2 : z2.toInt ≤ 255) (hz3 : z3.toInt ≤ 255) (Va : Arv Z h0 x0 ka .char (4 : Int32) [(.int z0), (.int z1), (.int z2), (.int z3)] (.int 0)) :
    OwnMet l Z (⟨"java/lang/StringUTF16", "compress", "([CII)[B"⟩ : MethodName) jdk_52_method_16_code 6 (some (.array .byte)) [] ({ frames := 1, cells := 1, slots := 4, locals := 18 } : Room) #[(.ref x0), (.int (0 : Int32)), (.int (4 : Int32))] h0 (fun v h L => ∃ b k, v = some (.ref b) ∧ Fr n0 L ∧ Keep h0 h [] ∧ h0.size ≤ b ∧ n0 ≤ b ∧ Arv Z h b k .byte (4 : Int32) [(.int z0.toInt8.toInt32), (.int z1.toInt8.toInt32), (.int z2.toInt8.toInt32), (.int z3.toInt8.toInt32)] (.int 0)) := by
  refine own_body (plainFor_of_name pn_2) (fun m => ef_c1_4 m x0) ?_
  intro p e s m below meth c s₁ X0 hx hby hml hown hnm hret hlk hZ e0
  replace hown : s.vm.findClass "java/lang/StringUTF16" = some m.cls := hown
  replace hml : c.maxLocals = 6 := hml
  have N0 := Fr.nil n0
  show Ends p.tables e below _ (s₁.setTop (mkF m 0 #[.val (.ref x0), .val (.int (0 : Int32)), .val (.int (4 : Int32)), .unset, .unset, .unset] []))
  refine own_iloadN X0 hx hby d6_0 rfl rfl ?_
  refine own_newarray X0 hx hby hZ (aty := .byte) (hw _ tw_19) e0 (by decide) 4 (by decide) (by decide) (by decide) (by decide) .byte rfl [(.int (0 : Int32)), (.int (0 : Int32)), (.int (0 : Int32)), (.int (0 : Int32))] rfl d6_1 rfl (fun T125 h125 b125 k125 X125 e125 g125 E125 V125 => ?_)
  have ge_b125 : n0 ≤ b125 := own_ge O g125
  have sz_b125 : h0.size ≤ b125 := Nat.le_trans (Keep.refl h0 []).1 (Nat.le_of_eq g125.symm)
  have ne_x0_b125 : x0 ≠ b125 := own_lt Va.lt g125
  refine own_astoreN X125 hx hby d6_3 rfl #[.val (.ref x0), .val (.int (0 : Int32)), .val (.int (4 : Int32)), .val (.ref b125), .unset, .unset] rfl rfl ?_
  refine own_aloadN X125 hx hby d6_4 rfl rfl rfl ?_
  refine own_iloadN X125 hx hby d6_5 rfl rfl ?_
  refine own_aloadN X125 hx hby d6_6 rfl rfl rfl ?_
  refine own_iconst X125 hx hby d6_7 rfl (0 : Int32) rfl ?_
  refine own_iloadN X125 hx hby d6_8 rfl rfl ?_
  have f127 := (Va.ext E125)
  refine own_static X125 hx hby hZ (argsL := [(.ref x0), (.int (0 : Int32)), (.ref b125), (.int (0 : Int32)), (.int (4 : Int32))]) (rest := []) hown (hw _ tw_34) (hw _ tw_35) (hw _ tw_32) (hw _ tw_36) (by decide) (rmc2_4 l Z a0 hw x0 b125 h125 n0 ge_b125 ne_x0_b125 hz0 hz1 hz2 hz3 f127 V125) e125 (by rw [hml]; rfl) pd_2 rfl (by decide) (W := 0) (Nat.le_refl _) (by decide) (by decide) (by decide) d6_9 rfl rfl (fun v126 T126 L126 X126 hQ126 => ?_)
  obtain ⟨rfl, N126q, K126, V126⟩ := hQ126
  show Ends p.tables e below _ (T126.setTop (mkF m 12 #[.val (.ref x0), .val (.int (0 : Int32)), .val (.int (4 : Int32)), .val (.ref b125), .unset, .unset] [(.int (4 : Int32))]))
  refine own_istore X126 hx hby d6_12 rfl #[.val (.ref x0), .val (.int (0 : Int32)), .val (.int (4 : Int32)), .val (.ref b125), .val (.int (4 : Int32)), .unset] rfl ?_
  refine own_iload X126 hx hby d6_14 rfl rfl ?_
  refine own_iloadN X126 hx hby d6_16 rfl rfl ?_
  refine own_icmp_eq X126 hx hby d6_17 (pcY := 57) (pcN := 20) (by decide) rfl (fun (hc128 : (4 : Int32) = (4 : Int32)) => ?_) (fun (hc128 : ¬ (4 : Int32) = (4 : Int32)) => False.elim (by exact absurd hc128 (by decide)))
  refine own_aloadN X126 hx hby d6_57 rfl rfl rfl ?_
  refine own_ret X126 hx hby hret hlk d6_58 (.ref b125) rfl (Or.inr (Or.inr ⟨rfl, rfl, rfl⟩)) (by decide) (by decide) ?_
  have f129 := (((Keep.refl h0 []).ext E125).trans K126 (allS (Or.inr sz_b125) all0))
  exact ⟨b125, _, rfl, (Fr.app N0 N126q), f129, sz_b125, ge_b125, V126⟩
set_option maxRecDepth 65536 in
set_option maxHeartbeats 40000000 in
theorem rmcal_1 (l : Launch) (Z : State) (a0 : Array Value) (hw : ∀ d ∈ tables_1, d.before a0 Z = true) (x0 : Addr) (h0 : Heap) {kb : ClassId} {z0 : Int32} (Vb : Arv Z h0 x0 kb .byte (1 : Int32) [(.int z0)] (.int 0)) :
    OwnMet l Z (⟨"java/lang/StringUTF16", "coderFromArrayLen", "([BI)B"⟩ : MethodName) jdk_52_method_15_code 2 (some .byte) [] ({ frames := 0, cells := 0, slots := 0, locals := 0 } : Room) #[(.ref x0), (.int (1 : Int32))] h0 (fun v h L => v = some (.int 0) ∧ L = [] ∧ h = h0) := by
  refine own_body (plainFor_of_name pn_2) (fun m => ef_cal_1 m x0) ?_
  intro p e s m below meth c s₁ X0 hx hby hml hown hnm hret hlk hZ e0
  replace hown : s.vm.findClass "java/lang/StringUTF16" = some m.cls := hown
  replace hml : c.maxLocals = 2 := hml
  show Ends p.tables e below _ (s₁.setTop (mkF m 0 #[.val (.ref x0), .val (.int (1 : Int32))] []))
  refine own_iloadN X0 hx hby d8_0 rfl rfl ?_
  refine own_aloadN X0 hx hby d8_1 rfl rfl rfl ?_
  refine own_arraylength X0 hx hby hZ e0 Vb d8_2 rfl ?_
  refine own_isub X0 hx hby d8_3 rfl ?_
  show Ends p.tables e below _ (s₁.setTop (mkF m 4 #[.val (.ref x0), .val (.int (1 : Int32))] [(.int (0 : Int32))]))
  refine own_bipush X0 hx hby d8_4 rfl (31 : Int32) rfl ?_
  refine own_iushr X0 hx hby d8_6 rfl ?_
  refine own_i2b X0 hx hby d8_7 rfl ?_
  refine own_ret X0 hx hby hret hlk d8_8 (.int (0 : Int32)) rfl (Or.inl ⟨rfl, by simp, _, rfl⟩) (by decide) (by decide) ?_
  exact ⟨rfl, rfl, e0⟩
set_option maxRecDepth 65536 in
set_option maxHeartbeats 40000000 in
theorem rmcal_2 (l : Launch) (Z : State) (a0 : Array Value) (hw : ∀ d ∈ tables_1, d.before a0 Z = true) (x0 : Addr) (h0 : Heap) {kb : ClassId} {z0 z1 : Int32} (Vb : Arv Z h0 x0 kb .byte (2 : Int32) [(.int z0), (.int z1)] (.int 0)) :
    OwnMet l Z (⟨"java/lang/StringUTF16", "coderFromArrayLen", "([BI)B"⟩ : MethodName) jdk_52_method_15_code 2 (some .byte) [] ({ frames := 0, cells := 0, slots := 0, locals := 0 } : Room) #[(.ref x0), (.int (2 : Int32))] h0 (fun v h L => v = some (.int 0) ∧ L = [] ∧ h = h0) := by
  refine own_body (plainFor_of_name pn_2) (fun m => ef_cal_2 m x0) ?_
  intro p e s m below meth c s₁ X0 hx hby hml hown hnm hret hlk hZ e0
  replace hown : s.vm.findClass "java/lang/StringUTF16" = some m.cls := hown
  replace hml : c.maxLocals = 2 := hml
  show Ends p.tables e below _ (s₁.setTop (mkF m 0 #[.val (.ref x0), .val (.int (2 : Int32))] []))
  refine own_iloadN X0 hx hby d8_0 rfl rfl ?_
  refine own_aloadN X0 hx hby d8_1 rfl rfl rfl ?_
  refine own_arraylength X0 hx hby hZ e0 Vb d8_2 rfl ?_
  refine own_isub X0 hx hby d8_3 rfl ?_
  show Ends p.tables e below _ (s₁.setTop (mkF m 4 #[.val (.ref x0), .val (.int (2 : Int32))] [(.int (0 : Int32))]))
  refine own_bipush X0 hx hby d8_4 rfl (31 : Int32) rfl ?_
  refine own_iushr X0 hx hby d8_6 rfl ?_
  refine own_i2b X0 hx hby d8_7 rfl ?_
  refine own_ret X0 hx hby hret hlk d8_8 (.int (0 : Int32)) rfl (Or.inl ⟨rfl, by simp, _, rfl⟩) (by decide) (by decide) ?_
  exact ⟨rfl, rfl, e0⟩
set_option maxRecDepth 65536 in
set_option maxHeartbeats 40000000 in
theorem rmcal_3 (l : Launch) (Z : State) (a0 : Array Value) (hw : ∀ d ∈ tables_1, d.before a0 Z = true) (x0 : Addr) (h0 : Heap) {kb : ClassId} {z0 z1 z2 : Int32} (Vb : Arv Z h0 x0 kb .byte (3 : Int32) [(.int z0), (.int z1), (.int z2)] (.int 0)) :
    OwnMet l Z (⟨"java/lang/StringUTF16", "coderFromArrayLen", "([BI)B"⟩ : MethodName) jdk_52_method_15_code 2 (some .byte) [] ({ frames := 0, cells := 0, slots := 0, locals := 0 } : Room) #[(.ref x0), (.int (3 : Int32))] h0 (fun v h L => v = some (.int 0) ∧ L = [] ∧ h = h0) := by
  refine own_body (plainFor_of_name pn_2) (fun m => ef_cal_3 m x0) ?_
  intro p e s m below meth c s₁ X0 hx hby hml hown hnm hret hlk hZ e0
  replace hown : s.vm.findClass "java/lang/StringUTF16" = some m.cls := hown
  replace hml : c.maxLocals = 2 := hml
  show Ends p.tables e below _ (s₁.setTop (mkF m 0 #[.val (.ref x0), .val (.int (3 : Int32))] []))
  refine own_iloadN X0 hx hby d8_0 rfl rfl ?_
  refine own_aloadN X0 hx hby d8_1 rfl rfl rfl ?_
  refine own_arraylength X0 hx hby hZ e0 Vb d8_2 rfl ?_
  refine own_isub X0 hx hby d8_3 rfl ?_
  show Ends p.tables e below _ (s₁.setTop (mkF m 4 #[.val (.ref x0), .val (.int (3 : Int32))] [(.int (0 : Int32))]))
  refine own_bipush X0 hx hby d8_4 rfl (31 : Int32) rfl ?_
  refine own_iushr X0 hx hby d8_6 rfl ?_
  refine own_i2b X0 hx hby d8_7 rfl ?_
  refine own_ret X0 hx hby hret hlk d8_8 (.int (0 : Int32)) rfl (Or.inl ⟨rfl, by simp, _, rfl⟩) (by decide) (by decide) ?_
  exact ⟨rfl, rfl, e0⟩
set_option maxRecDepth 65536 in
set_option maxHeartbeats 40000000 in
theorem rmcal_4 (l : Launch) (Z : State) (a0 : Array Value) (hw : ∀ d ∈ tables_1, d.before a0 Z = true) (x0 : Addr) (h0 : Heap) {kb : ClassId} {z0 z1 z2 z3 : Int32} (Vb : Arv Z h0 x0 kb .byte (4 : Int32) [(.int z0), (.int z1), (.int z2), (.int z3)] (.int 0)) :
    OwnMet l Z (⟨"java/lang/StringUTF16", "coderFromArrayLen", "([BI)B"⟩ : MethodName) jdk_52_method_15_code 2 (some .byte) [] ({ frames := 0, cells := 0, slots := 0, locals := 0 } : Room) #[(.ref x0), (.int (4 : Int32))] h0 (fun v h L => v = some (.int 0) ∧ L = [] ∧ h = h0) := by
  refine own_body (plainFor_of_name pn_2) (fun m => ef_cal_4 m x0) ?_
  intro p e s m below meth c s₁ X0 hx hby hml hown hnm hret hlk hZ e0
  replace hown : s.vm.findClass "java/lang/StringUTF16" = some m.cls := hown
  replace hml : c.maxLocals = 2 := hml
  show Ends p.tables e below _ (s₁.setTop (mkF m 0 #[.val (.ref x0), .val (.int (4 : Int32))] []))
  refine own_iloadN X0 hx hby d8_0 rfl rfl ?_
  refine own_aloadN X0 hx hby d8_1 rfl rfl rfl ?_
  refine own_arraylength X0 hx hby hZ e0 Vb d8_2 rfl ?_
  refine own_isub X0 hx hby d8_3 rfl ?_
  show Ends p.tables e below _ (s₁.setTop (mkF m 4 #[.val (.ref x0), .val (.int (4 : Int32))] [(.int (0 : Int32))]))
  refine own_bipush X0 hx hby d8_4 rfl (31 : Int32) rfl ?_
  refine own_iushr X0 hx hby d8_6 rfl ?_
  refine own_i2b X0 hx hby d8_7 rfl ?_
  refine own_ret X0 hx hby hret hlk d8_8 (.int (0 : Int32)) rfl (Or.inl ⟨rfl, by simp, _, rfl⟩) (by decide) (by decide) ?_
  exact ⟨rfl, rfl, e0⟩
set_option maxRecDepth 65536 in
set_option maxHeartbeats 40000000 in
theorem rmi4_0 (l : Launch) (Z : State) (a0 : Array Value) (hw : ∀ d ∈ tables_1, d.before a0 Z = true) (x0 : Addr) (x1 : Addr) (h0 : Heap) (n0 : Nat) (hEL : EW Z a0 consts_1) {ks : Int32} {fm : Value} (hks : ¬ ks = 0) (hfm : fm.isRef = true) (CS : Sta Z Z.heap "java/lang/String" "COMPACT_STRINGS" "Z" (.int ks)) (FS : Sta Z Z.heap "jdk/internal/util/Preconditions" "SIOOBE_FORMATTER" "Ljava/util/function/BiFunction;" fm) (gx : n0 ≤ x0) (E : Exa Z h0 x0 "java/lang/String") (Fc : Fld Z h0 x0 "java/lang/String" "coder" "B" (.int 0)) (Fv : Fld Z h0 x0 "java/lang/String" "value" "[B" .null) (O : Old Z n0 h0) {ka : ClassId}  (Va : Arv Z h0 x1 ka .char (0 : Int32) [] (.int 0)) :
    OwnMetH l Z consts_1 [x0] (⟨"java/lang/String", "<init>", "([CIILjava/lang/Void;)V"⟩ : MethodName) jdk_42_method_149_code 6 none [] ({ frames := 1, cells := 4, slots := 8, locals := 30 } : Room) #[(.ref x0), (.ref x1), (.int (0 : Int32)), (.int (0 : Int32)), .null] h0 (fun v h L => ∃ b k, v = none ∧ Fr n0 L ∧ Keep h0 h [x0] ∧ Fld Z h x0 "java/lang/String" "coder" "B" (.int 0) ∧ Fld Z h x0 "java/lang/String" "value" "[B" (.ref b) ∧ Arv Z h b k .byte (0 : Int32) [] (.int 0)) := by
  refine own_bodyH (plainFor_of_name pn_0) (fun m => ef_i4_0 m x0 x1) ?_
  intro p e s m below meth c s₁ X0 hx hby hml hown hnm hret hlk hZ e0 eh hS hH hxs
  replace hown : (s.setVm s.vm).vm.findClass "java/lang/String" = some m.cls := hown
  replace hml : c.maxLocals = 6 := hml
  have N0 := Fr.nil n0
  show Ends p.tables e below _ (s₁.setTop (mkF m 0 #[.val (.ref x0), .val (.ref x1), .val (.int (0 : Int32)), .val (.int (0 : Int32)), .val .null, .unset] []))
  refine own_aloadN X0 hx hby d3_0 rfl rfl rfl ?_
  refine own_initO X0 hx hby hZ hown (hw _ tw_15) (hw _ tw_16) (hw _ tw_17) e0 (by rw [hml]; rfl) (by decide) (W := 0) (Nat.le_refl _) (by decide) d3_1 rfl (fun T130 X130 e130 => ?_)
  refine own_iloadN X130 hx hby d3_4 rfl rfl ?_
  refine own_if_ne X130 hx hby d3_5 (pcY := 27) (pcN := 8) (by decide) rfl (fun (hc131 : ¬ (0 : Int32) = (0 : Int32)) => False.elim (by exact absurd hc131 (by decide))) (fun (hc131 : (0 : Int32) = (0 : Int32)) => ?_)
  refine own_aloadN X130 hx hby d3_8 rfl rfl rfl ?_
  have f133 := (CHr.refl hH)
  refine own_ldcH X130 hx hby hZ hown (hw _ tw_18) (own_satoms hw) e130 hS (Nat.le_refl _) hEL (show ("java/lang/String", (7 : Nat)) ∈ consts_1 by decide) f133.1 [] (0 : Int32) (by decide +kernel) (by decide) rfl 0 (by decide) (by decide) (by decide) (by decide) d3_9 rfl (fun b132 T132 h132 k132 c132 j132 X132 e132 E132 hS hk132 hZ hown A132 B132 D132 V132 C132 S132 => ?_)
  have R132 := f133.trans C132
  show Ends p.tables e below _ (T132.setTop (mkF m 11 #[.val (.ref x0), .val (.ref x1), .val (.int (0 : Int32)), .val (.int (0 : Int32)), .val .null, .unset] [(.ref b132), (.ref x0)]))
  refine own_getfield X132 hx hby hZ hown (host := "") (Or.inl (hw _ tw_24)) Via.refl e132 D132 d3_11 rfl (fun T134 X134 e134 => ?_)
  have f135 := (E.ext E132)
  have f136 := (Fv.ext E132)
  refine own_putfield X134 hx hby hZ hown (host := "") (Or.inl (hw _ tw_24)) Via.refl e134 f136 f135 (Or.inr ⟨(hw _ tw_20), rfl, hnm⟩) (hw _ tw_5) (ty := (.array .byte)) (by decide) rfl rfl N0 gx  d3_14 rfl (fun T137 h137 L137 X137 e137 W137 N137 => ?_)
  have F137 := f136.same W137
  refine own_aloadN X137 hx hby d3_17 rfl rfl rfl ?_
  have f139 := (Nat.le_trans hk132 (Keep.of_wr W137).1)
  have f140 := (own_Rw R132 W137 (R132.safe E.lt (hxs x0 (by simp))))
  refine own_ldcH X137 hx hby hZ hown (hw _ tw_18) (own_satoms hw) e137 hS f139 hEL (show ("java/lang/String", (7 : Nat)) ∈ consts_1 by decide) f140.1 [] (0 : Int32) (by decide +kernel) (by decide) rfl 0 (by decide) (by decide) (by decide) (by decide) d3_18 rfl (fun b138 T138 h138 k138 c138 j138 X138 e138 E138 hS hk138 hZ hown A138 B138 D138 V138 C138 S138 => ?_)
  have R138 := f140.trans C138
  show Ends p.tables e below _ (T138.setTop (mkF m 20 #[.val (.ref x0), .val (.ref x1), .val (.int (0 : Int32)), .val (.int (0 : Int32)), .val .null, .unset] [(.ref b138), (.ref x0)]))
  refine own_getfield X138 hx hby hZ hown (host := "") (Or.inl (hw _ tw_25)) Via.refl e138 B138 d3_20 rfl (fun T141 X141 e141 => ?_)
  have f142 := ((f135.wr W137).ext E138)
  have f143 := (((Fc.ext E132).other W137 (Or.inr (slot_ne (Or.inr (hw _ tw_21)) (Or.inr (hw _ tw_20)) (by decide) (t := .byte) (t' := (.array .byte)) (by decide) (by decide)))).ext E138)
  refine own_putfield X141 hx hby hZ hown (host := "") (Or.inl (hw _ tw_25)) Via.refl e141 f143 f142 (Or.inr ⟨(hw _ tw_21), rfl, hnm⟩) (hw _ tw_5) (ty := .byte) (by decide) rfl rfl N137 gx  d3_23 rfl (fun T144 h144 L144 X144 e144 W144 N144 => ?_)
  have F144 := f143.same W144
  have f145 := (own_Rw R138 W144 (R138.safe E.lt (hxs x0 (by simp))))
  have f146 := (Nat.le_trans hk138 (Keep.of_wr W144).1)
  refine own_retVH X144 hx hby hret hlk d3_26 hZ hEL (by rw [show T144.heap = _ from e144, show s.heap = _ from eh]; exact f145) hS (by rw [show T144.heap = _ from e144]; exact f146) (by decide) (by decide) ?_
  rw [e144]
  have f147 := (((((Keep.refl h0 [x0]).ext E132).wr W137 (Or.inl (by simp))).ext E138).wr W144 (Or.inl (by simp)))
  have f148 := ((F137.ext E138).other W144 (Or.inr (slot_ne (Or.inr (hw _ tw_20)) (Or.inr (hw _ tw_21)) (by decide) (t := (.array .byte)) (t' := .byte) (by decide) (by decide))))
  have f149 := (((V132.other W137 (S132 x0 (R132.safe E.lt (hxs x0 (by simp)))).2.symm).ext E138).other W144 (S132 x0 (R132.safe E.lt (hxs x0 (by simp)))).2.symm)
  exact ⟨c132, _, rfl, N144, f147, F144, f148, f149⟩
set_option maxRecDepth 65536 in
set_option maxHeartbeats 40000000 in
theorem rmi1_0 (l : Launch) (Z : State) (a0 : Array Value) (hw : ∀ d ∈ tables_1, d.before a0 Z = true) (x0 : Addr) (x1 : Addr) (h0 : Heap) (n0 : Nat) (hEL : EW Z a0 consts_1) {ks : Int32} {fm : Value} (hks : ¬ ks = 0) (hfm : fm.isRef = true) (CS : Sta Z Z.heap "java/lang/String" "COMPACT_STRINGS" "Z" (.int ks)) (FS : Sta Z Z.heap "jdk/internal/util/Preconditions" "SIOOBE_FORMATTER" "Ljava/util/function/BiFunction;" fm) (gx : n0 ≤ x0) (E : Exa Z h0 x0 "java/lang/String") (Fc : Fld Z h0 x0 "java/lang/String" "coder" "B" (.int 0)) (Fv : Fld Z h0 x0 "java/lang/String" "value" "[B" .null) (O : Old Z n0 h0) {ka : ClassId}  (Va : Arv Z h0 x1 ka .char (0 : Int32) [] (.int 0)) :
    OwnMetH l Z consts_1 [x0] (⟨"java/lang/String", "<init>", "([C)V"⟩ : MethodName) jdk_42_method_3_code 2 none [] ({ frames := 2, cells := 4, slots := 8, locals := 47 } : Room) #[(.ref x0), (.ref x1)] h0 (fun v h L => ∃ b k, v = none ∧ Fr n0 L ∧ Keep h0 h [x0] ∧ Fld Z h x0 "java/lang/String" "coder" "B" (.int 0) ∧ Fld Z h x0 "java/lang/String" "value" "[B" (.ref b) ∧ Arv Z h b k .byte (0 : Int32) [] (.int 0)) := by
  refine own_bodyH (plainFor_of_name pn_0) (fun m => ef_i1_0 m x0 x1) ?_
  intro p e s m below meth c s₁ X0 hx hby hml hown hnm hret hlk hZ e0 eh hS hH hxs
  replace hown : (s.setVm s.vm).vm.findClass "java/lang/String" = some m.cls := hown
  replace hml : c.maxLocals = 2 := hml
  have N0 := Fr.nil n0
  show Ends p.tables e below _ (s₁.setTop (mkF m 0 #[.val (.ref x0), .val (.ref x1)] []))
  refine own_aloadN X0 hx hby d2_0 rfl rfl rfl ?_
  refine own_aloadN X0 hx hby d2_1 rfl rfl rfl ?_
  refine own_iconst X0 hx hby d2_2 rfl (0 : Int32) rfl ?_
  refine own_aloadN X0 hx hby d2_3 rfl rfl rfl ?_
  refine own_arraylength X0 hx hby hZ e0 Va d2_4 rfl ?_
  refine own_aconstNull X0 hx hby d2_5 rfl ?_
  have f151 := (CHr.refl hH)
  refine own_specialH X0 hx hby hZ (a := x0) (argsL := [(.ref x1), (.int (0 : Int32)), (.int (0 : Int32)), .null]) (rest := []) hown rfl (hw _ tw_11) (hw _ tw_12) (hw _ tw_6) (hw _ tw_14) (by decide) (rmi4_0 l Z a0 hw x0 x1 h0 n0 hEL hks hfm CS FS gx E Fc Fv O  Va) e0 hS (Nat.le_refl _) hEL f151.1 (by intro y hy; rw [List.mem_singleton.mp hy]; exact ⟨E.lt, (f151.safe E.lt (hxs x0 (by simp)))⟩) (by rw [hml]; rfl) pd_3 rfl (by decide) (W := 0) (Nat.le_refl _) (by decide) (by decide) (by decide) d2_6 rfl rfl (fun v150 T150 L150 X150 hS hZ hown hR150 hQ150 => ?_)
  obtain ⟨b150, k150, rfl, N150q, K150, B150, D150, V150⟩ := hQ150
  show Ends p.tables e below _ (T150.setTop (mkF m 9 #[.val (.ref x0), .val (.ref x1)] []))
  have f152 := (f151.trans hR150)
  refine own_retVH X150 hx hby hret hlk d2_9 hZ hEL (by rw [show T150.heap = _ from rfl, show s.heap = _ from eh]; exact f152) hS (by rw [show T150.heap = _ from rfl]; exact (Nat.le_refl _)) (by decide) (by decide) ?_
  have f153 := ((Keep.refl h0 [x0]).trans K150 (allS (Or.inl (by simp)) all0))
  exact ⟨b150, _, rfl, (Fr.app N0 N150q), f153, B150, D150, V150⟩
set_option maxRecDepth 65536 in
set_option maxHeartbeats 40000000 in
theorem rmi4_1 (l : Launch) (Z : State) (a0 : Array Value) (hw : ∀ d ∈ tables_1, d.before a0 Z = true) (x0 : Addr) (x1 : Addr) (h0 : Heap) (n0 : Nat) {ks : Int32} {fm : Value} (hks : ¬ ks = 0) (hfm : fm.isRef = true) (CS : Sta Z Z.heap "java/lang/String" "COMPACT_STRINGS" "Z" (.int ks)) (FS : Sta Z Z.heap "jdk/internal/util/Preconditions" "SIOOBE_FORMATTER" "Ljava/util/function/BiFunction;" fm) (gx : n0 ≤ x0) (E : Exa Z h0 x0 "java/lang/String") (Fc : Fld Z h0 x0 "java/lang/String" "coder" "B" (.int 0)) (Fv : Fld Z h0 x0 "java/lang/String" "value" "[B" .null) (O : Old Z n0 h0) {ka : ClassId} {z0 : Int32} (hz0 : z0.toInt ≤ 255) (Va : Arv Z h0 x1 ka .char (1 : Int32) [(.int z0)] (.int 0)) :
    OwnMet l Z (⟨"java/lang/String", "<init>", "([CIILjava/lang/Void;)V"⟩ : MethodName) jdk_42_method_149_code 6 none [] ({ frames := 2, cells := 1, slots := 1, locals := 35 } : Room) #[(.ref x0), (.ref x1), (.int (0 : Int32)), (.int (1 : Int32)), .null] h0 (fun v h L => ∃ b k, v = none ∧ Fr n0 L ∧ Keep h0 h [x0] ∧ Fld Z h x0 "java/lang/String" "coder" "B" (.int 0) ∧ Fld Z h x0 "java/lang/String" "value" "[B" (.ref b) ∧ Arv Z h b k .byte (1 : Int32) [(.int z0.toInt8.toInt32)] (.int 0)) := by
  refine own_body (plainFor_of_name pn_0) (fun m => ef_i4_1 m x0 x1) ?_
  intro p e s m below meth c s₁ X0 hx hby hml hown hnm hret hlk hZ e0
  replace hown : s.vm.findClass "java/lang/String" = some m.cls := hown
  replace hml : c.maxLocals = 6 := hml
  have N0 := Fr.nil n0
  show Ends p.tables e below _ (s₁.setTop (mkF m 0 #[.val (.ref x0), .val (.ref x1), .val (.int (0 : Int32)), .val (.int (1 : Int32)), .val .null, .unset] []))
  refine own_aloadN X0 hx hby d3_0 rfl rfl rfl ?_
  refine own_initO X0 hx hby hZ hown (hw _ tw_15) (hw _ tw_16) (hw _ tw_17) e0 (by rw [hml]; rfl) (by decide) (W := 0) (Nat.le_refl _) (by decide) d3_1 rfl (fun T154 X154 e154 => ?_)
  refine own_iloadN X154 hx hby d3_4 rfl rfl ?_
  refine own_if_ne X154 hx hby d3_5 (pcY := 27) (pcN := 8) (by decide) rfl (fun (hc155 : ¬ (1 : Int32) = (0 : Int32)) => ?_) (fun (hc155 : (1 : Int32) = (0 : Int32)) => False.elim (by exact absurd hc155 (by decide)))
  refine own_getstatic X154 hx hby hZ hown (host := "") (Or.inl (hw _ tw_29)) Via.refl e154 (CS.ext (O).2) d3_27 rfl (fun T156 X156 e156 => ?_)
  refine own_if_eq X156 hx hby d3_30 (pcY := 58) (pcN := 33) (by decide) rfl (fun (hc157 : ks = (0 : Int32)) => False.elim (by exact hks hc157)) (fun (hc157 : ¬ ks = (0 : Int32)) => ?_)
  refine own_aloadN X156 hx hby d3_33 rfl rfl rfl ?_
  refine own_iloadN X156 hx hby d3_34 rfl rfl ?_
  refine own_iloadN X156 hx hby d3_35 rfl rfl ?_
  refine own_static X156 hx hby hZ (argsL := [(.ref x1), (.int (0 : Int32)), (.int (1 : Int32))]) (rest := []) hown (hw _ tw_30) (hw _ tw_31) (hw _ tw_32) (hw _ tw_33) (by decide) (rmc1_1 l Z a0 hw x1 h0 n0 O hz0 Va) e156 (by rw [hml]; rfl) pd_4 rfl (by decide) (W := 0) (Nat.le_refl _) (by decide) (by decide) (by decide) d3_36 rfl rfl (fun v158 T158 L158 X158 hQ158 => ?_)
  obtain ⟨b158, k158, rfl, N158q, K158, sq158, gq158, V158⟩ := hQ158
  show Ends p.tables e below _ (T158.setTop (mkF m 39 #[.val (.ref x0), .val (.ref x1), .val (.int (0 : Int32)), .val (.int (1 : Int32)), .val .null, .unset] [(.ref b158)]))
  refine own_astore X158 hx hby d3_39 rfl #[.val (.ref x0), .val (.ref x1), .val (.int (0 : Int32)), .val (.int (1 : Int32)), .val .null, .val (.ref b158)] rfl rfl ?_
  refine own_aloadN X158 hx hby d3_41 rfl rfl rfl ?_
  refine own_aload X158 hx hby d3_42 rfl rfl rfl ?_
  refine own_iloadN X158 hx hby d3_44 rfl rfl ?_
  refine own_static X158 hx hby hZ (argsL := [(.ref b158), (.int (1 : Int32))]) (rest := [(.ref x0)]) hown (hw _ tw_37) (hw _ tw_38) (hw _ tw_32) (hw _ tw_39) (by decide) (rmcal_1 l Z a0 hw b158 T158.heap V158) rfl (by rw [hml]; rfl) pd_5 rfl (by decide) (W := 1) (Nat.le_refl _) (by decide) (by decide) (by decide) d3_45 rfl rfl (fun v159 T159 L159 X159 hQ159 => ?_)
  obtain ⟨rfl, rfl, e159⟩ := hQ159
  show Ends p.tables e below _ (T159.setTop (mkF m 48 #[.val (.ref x0), .val (.ref x1), .val (.int (0 : Int32)), .val (.int (1 : Int32)), .val .null, .val (.ref b158)] [(.int (0 : Int32)), (.ref x0)]))
  have f160 := (E.keep K158)
  have f161 := (Fc.keep K158 nin0)
  refine own_putfield X159 hx hby hZ hown (host := "") (Or.inl (hw _ tw_25)) Via.refl e159 f161 f160 (Or.inr ⟨(hw _ tw_21), rfl, hnm⟩) (hw _ tw_5) (ty := .byte) (by decide) rfl rfl (Fr.app (Fr.app N0 N158q) (Fr.nil _)) gx  d3_48 rfl (fun T162 h162 L162 X162 e162 W162 N162 => ?_)
  have F162 := f161.same W162
  refine own_aloadN X162 hx hby d3_51 rfl rfl rfl ?_
  refine own_aload X162 hx hby d3_52 rfl rfl rfl ?_
  have f163 := (f160.wr W162)
  have f164 := ((Fv.keep K158 nin0).other W162 (Or.inr (slot_ne (Or.inr (hw _ tw_20)) (Or.inr (hw _ tw_21)) (by decide) (t := (.array .byte)) (t' := .byte) (by decide) (by decide))))
  refine own_putfield X162 hx hby hZ hown (host := "") (Or.inl (hw _ tw_24)) Via.refl e162 f164 f163 (Or.inr ⟨(hw _ tw_20), rfl, hnm⟩) (hw _ tw_5) (ty := (.array .byte)) (by decide) rfl rfl N162 gx  d3_54 rfl (fun T165 h165 L165 X165 e165 W165 N165 => ?_)
  have F165 := f164.same W165
  refine own_retV X165 hx hby hret hlk d3_57 (by decide) (by decide) ?_
  rw [e165]
  have f166 := ((((Keep.refl h0 [x0]).trans K158 all0).wr W162 (Or.inl (by simp))).wr W165 (Or.inl (by simp)))
  have f167 := (F162.other W165 (Or.inr (slot_ne (Or.inr (hw _ tw_21)) (Or.inr (hw _ tw_20)) (by decide) (t := .byte) (t' := (.array .byte)) (by decide) (by decide))))
  have f168 := ((V158.other W162 (Ne.symm (Nat.ne_of_lt (Nat.lt_of_lt_of_le E.lt sq158)))).other W165 (Ne.symm (Nat.ne_of_lt (Nat.lt_of_lt_of_le E.lt sq158))))
  exact ⟨b158, _, rfl, N165, f166, f167, F165, f168⟩
set_option maxRecDepth 65536 in
set_option maxHeartbeats 40000000 in
theorem rmi1_1 (l : Launch) (Z : State) (a0 : Array Value) (hw : ∀ d ∈ tables_1, d.before a0 Z = true) (x0 : Addr) (x1 : Addr) (h0 : Heap) (n0 : Nat) {ks : Int32} {fm : Value} (hks : ¬ ks = 0) (hfm : fm.isRef = true) (CS : Sta Z Z.heap "java/lang/String" "COMPACT_STRINGS" "Z" (.int ks)) (FS : Sta Z Z.heap "jdk/internal/util/Preconditions" "SIOOBE_FORMATTER" "Ljava/util/function/BiFunction;" fm) (gx : n0 ≤ x0) (E : Exa Z h0 x0 "java/lang/String") (Fc : Fld Z h0 x0 "java/lang/String" "coder" "B" (.int 0)) (Fv : Fld Z h0 x0 "java/lang/String" "value" "[B" .null) (O : Old Z n0 h0) {ka : ClassId} {z0 : Int32} (hz0 : z0.toInt ≤ 255) (Va : Arv Z h0 x1 ka .char (1 : Int32) [(.int z0)] (.int 0)) :
    OwnMet l Z (⟨"java/lang/String", "<init>", "([C)V"⟩ : MethodName) jdk_42_method_3_code 2 none [] ({ frames := 3, cells := 1, slots := 1, locals := 52 } : Room) #[(.ref x0), (.ref x1)] h0 (fun v h L => ∃ b k, v = none ∧ Fr n0 L ∧ Keep h0 h [x0] ∧ Fld Z h x0 "java/lang/String" "coder" "B" (.int 0) ∧ Fld Z h x0 "java/lang/String" "value" "[B" (.ref b) ∧ Arv Z h b k .byte (1 : Int32) [(.int z0.toInt8.toInt32)] (.int 0)) := by
  refine own_body (plainFor_of_name pn_0) (fun m => ef_i1_1 m x0 x1) ?_
  intro p e s m below meth c s₁ X0 hx hby hml hown hnm hret hlk hZ e0
  replace hown : s.vm.findClass "java/lang/String" = some m.cls := hown
  replace hml : c.maxLocals = 2 := hml
  have N0 := Fr.nil n0
  show Ends p.tables e below _ (s₁.setTop (mkF m 0 #[.val (.ref x0), .val (.ref x1)] []))
  refine own_aloadN X0 hx hby d2_0 rfl rfl rfl ?_
  refine own_aloadN X0 hx hby d2_1 rfl rfl rfl ?_
  refine own_iconst X0 hx hby d2_2 rfl (0 : Int32) rfl ?_
  refine own_aloadN X0 hx hby d2_3 rfl rfl rfl ?_
  refine own_arraylength X0 hx hby hZ e0 Va d2_4 rfl ?_
  refine own_aconstNull X0 hx hby d2_5 rfl ?_
  refine own_special X0 hx hby hZ (a := x0) (argsL := [(.ref x1), (.int (0 : Int32)), (.int (1 : Int32)), .null]) (rest := []) hown rfl (hw _ tw_11) (hw _ tw_12) (hw _ tw_6) (hw _ tw_14) (by decide) (rmi4_1 l Z a0 hw x0 x1 h0 n0 hks hfm CS FS gx E Fc Fv O hz0 Va) e0 (by rw [hml]; rfl) pd_3 rfl (by decide) (W := 0) (Nat.le_refl _) (by decide) (by decide) (by decide) d2_6 rfl rfl (fun v169 T169 L169 X169 hQ169 => ?_)
  obtain ⟨b169, k169, rfl, N169q, K169, B169, D169, V169⟩ := hQ169
  show Ends p.tables e below _ (T169.setTop (mkF m 9 #[.val (.ref x0), .val (.ref x1)] []))
  refine own_retV X169 hx hby hret hlk d2_9 (by decide) (by decide) ?_
  have f170 := ((Keep.refl h0 [x0]).trans K169 (allS (Or.inl (by simp)) all0))
  exact ⟨b169, _, rfl, (Fr.app N0 N169q), f170, B169, D169, V169⟩
set_option maxRecDepth 65536 in
set_option maxHeartbeats 40000000 in
theorem rmi4_2 (l : Launch) (Z : State) (a0 : Array Value) (hw : ∀ d ∈ tables_1, d.before a0 Z = true) (x0 : Addr) (x1 : Addr) (h0 : Heap) (n0 : Nat) {ks : Int32} {fm : Value} (hks : ¬ ks = 0) (hfm : fm.isRef = true) (CS : Sta Z Z.heap "java/lang/String" "COMPACT_STRINGS" "Z" (.int ks)) (FS : Sta Z Z.heap "jdk/internal/util/Preconditions" "SIOOBE_FORMATTER" "Ljava/util/function/BiFunction;" fm) (gx : n0 ≤ x0) (E : Exa Z h0 x0 "java/lang/String") (Fc : Fld Z h0 x0 "java/lang/String" "coder" "B" (.int 0)) (Fv : Fld Z h0 x0 "java/lang/String" "value" "[B" .null) (O : Old Z n0 h0) {ka : ClassId} {z0 z1 : Int32} (hz0 : z0.toInt ≤ 255) (hz1 : z1.toInt ≤ 255) (Va : Arv Z h0 x1 ka .char (2 : Int32) [(.int z0), (.int z1)] (.int 0)) :
    OwnMet l Z (⟨"java/lang/String", "<init>", "([CIILjava/lang/Void;)V"⟩ : MethodName) jdk_42_method_149_code 6 none [] ({ frames := 2, cells := 1, slots := 2, locals := 35 } : Room) #[(.ref x0), (.ref x1), (.int (0 : Int32)), (.int (2 : Int32)), .null] h0 (fun v h L => ∃ b k, v = none ∧ Fr n0 L ∧ Keep h0 h [x0] ∧ Fld Z h x0 "java/lang/String" "coder" "B" (.int 0) ∧ Fld Z h x0 "java/lang/String" "value" "[B" (.ref b) ∧ Arv Z h b k .byte (2 : Int32) [(.int z0.toInt8.toInt32), (.int z1.toInt8.toInt32)] (.int 0)) := by
  refine own_body (plainFor_of_name pn_0) (fun m => ef_i4_2 m x0 x1) ?_
  intro p e s m below meth c s₁ X0 hx hby hml hown hnm hret hlk hZ e0
  replace hown : s.vm.findClass "java/lang/String" = some m.cls := hown
  replace hml : c.maxLocals = 6 := hml
  have N0 := Fr.nil n0
  show Ends p.tables e below _ (s₁.setTop (mkF m 0 #[.val (.ref x0), .val (.ref x1), .val (.int (0 : Int32)), .val (.int (2 : Int32)), .val .null, .unset] []))
  refine own_aloadN X0 hx hby d3_0 rfl rfl rfl ?_
  refine own_initO X0 hx hby hZ hown (hw _ tw_15) (hw _ tw_16) (hw _ tw_17) e0 (by rw [hml]; rfl) (by decide) (W := 0) (Nat.le_refl _) (by decide) d3_1 rfl (fun T171 X171 e171 => ?_)
  refine own_iloadN X171 hx hby d3_4 rfl rfl ?_
  refine own_if_ne X171 hx hby d3_5 (pcY := 27) (pcN := 8) (by decide) rfl (fun (hc172 : ¬ (2 : Int32) = (0 : Int32)) => ?_) (fun (hc172 : (2 : Int32) = (0 : Int32)) => False.elim (by exact absurd hc172 (by decide)))
  refine own_getstatic X171 hx hby hZ hown (host := "") (Or.inl (hw _ tw_29)) Via.refl e171 (CS.ext (O).2) d3_27 rfl (fun T173 X173 e173 => ?_)
  refine own_if_eq X173 hx hby d3_30 (pcY := 58) (pcN := 33) (by decide) rfl (fun (hc174 : ks = (0 : Int32)) => False.elim (by exact hks hc174)) (fun (hc174 : ¬ ks = (0 : Int32)) => ?_)
  refine own_aloadN X173 hx hby d3_33 rfl rfl rfl ?_
  refine own_iloadN X173 hx hby d3_34 rfl rfl ?_
  refine own_iloadN X173 hx hby d3_35 rfl rfl ?_
  refine own_static X173 hx hby hZ (argsL := [(.ref x1), (.int (0 : Int32)), (.int (2 : Int32))]) (rest := []) hown (hw _ tw_30) (hw _ tw_31) (hw _ tw_32) (hw _ tw_33) (by decide) (rmc1_2 l Z a0 hw x1 h0 n0 O hz0 hz1 Va) e173 (by rw [hml]; rfl) pd_4 rfl (by decide) (W := 0) (Nat.le_refl _) (by decide) (by decide) (by decide) d3_36 rfl rfl (fun v175 T175 L175 X175 hQ175 => ?_)
  obtain ⟨b175, k175, rfl, N175q, K175, sq175, gq175, V175⟩ := hQ175
  show Ends p.tables e below _ (T175.setTop (mkF m 39 #[.val (.ref x0), .val (.ref x1), .val (.int (0 : Int32)), .val (.int (2 : Int32)), .val .null, .unset] [(.ref b175)]))
  refine own_astore X175 hx hby d3_39 rfl #[.val (.ref x0), .val (.ref x1), .val (.int (0 : Int32)), .val (.int (2 : Int32)), .val .null, .val (.ref b175)] rfl rfl ?_
  refine own_aloadN X175 hx hby d3_41 rfl rfl rfl ?_
  refine own_aload X175 hx hby d3_42 rfl rfl rfl ?_
  refine own_iloadN X175 hx hby d3_44 rfl rfl ?_
  refine own_static X175 hx hby hZ (argsL := [(.ref b175), (.int (2 : Int32))]) (rest := [(.ref x0)]) hown (hw _ tw_37) (hw _ tw_38) (hw _ tw_32) (hw _ tw_39) (by decide) (rmcal_2 l Z a0 hw b175 T175.heap V175) rfl (by rw [hml]; rfl) pd_5 rfl (by decide) (W := 1) (Nat.le_refl _) (by decide) (by decide) (by decide) d3_45 rfl rfl (fun v176 T176 L176 X176 hQ176 => ?_)
  obtain ⟨rfl, rfl, e176⟩ := hQ176
  show Ends p.tables e below _ (T176.setTop (mkF m 48 #[.val (.ref x0), .val (.ref x1), .val (.int (0 : Int32)), .val (.int (2 : Int32)), .val .null, .val (.ref b175)] [(.int (0 : Int32)), (.ref x0)]))
  have f177 := (E.keep K175)
  have f178 := (Fc.keep K175 nin0)
  refine own_putfield X176 hx hby hZ hown (host := "") (Or.inl (hw _ tw_25)) Via.refl e176 f178 f177 (Or.inr ⟨(hw _ tw_21), rfl, hnm⟩) (hw _ tw_5) (ty := .byte) (by decide) rfl rfl (Fr.app (Fr.app N0 N175q) (Fr.nil _)) gx  d3_48 rfl (fun T179 h179 L179 X179 e179 W179 N179 => ?_)
  have F179 := f178.same W179
  refine own_aloadN X179 hx hby d3_51 rfl rfl rfl ?_
  refine own_aload X179 hx hby d3_52 rfl rfl rfl ?_
  have f180 := (f177.wr W179)
  have f181 := ((Fv.keep K175 nin0).other W179 (Or.inr (slot_ne (Or.inr (hw _ tw_20)) (Or.inr (hw _ tw_21)) (by decide) (t := (.array .byte)) (t' := .byte) (by decide) (by decide))))
  refine own_putfield X179 hx hby hZ hown (host := "") (Or.inl (hw _ tw_24)) Via.refl e179 f181 f180 (Or.inr ⟨(hw _ tw_20), rfl, hnm⟩) (hw _ tw_5) (ty := (.array .byte)) (by decide) rfl rfl N179 gx  d3_54 rfl (fun T182 h182 L182 X182 e182 W182 N182 => ?_)
  have F182 := f181.same W182
  refine own_retV X182 hx hby hret hlk d3_57 (by decide) (by decide) ?_
  rw [e182]
  have f183 := ((((Keep.refl h0 [x0]).trans K175 all0).wr W179 (Or.inl (by simp))).wr W182 (Or.inl (by simp)))
  have f184 := (F179.other W182 (Or.inr (slot_ne (Or.inr (hw _ tw_21)) (Or.inr (hw _ tw_20)) (by decide) (t := .byte) (t' := (.array .byte)) (by decide) (by decide))))
  have f185 := ((V175.other W179 (Ne.symm (Nat.ne_of_lt (Nat.lt_of_lt_of_le E.lt sq175)))).other W182 (Ne.symm (Nat.ne_of_lt (Nat.lt_of_lt_of_le E.lt sq175))))
  exact ⟨b175, _, rfl, N182, f183, f184, F182, f185⟩
set_option maxRecDepth 65536 in
set_option maxHeartbeats 40000000 in
theorem rmi1_2 (l : Launch) (Z : State) (a0 : Array Value) (hw : ∀ d ∈ tables_1, d.before a0 Z = true) (x0 : Addr) (x1 : Addr) (h0 : Heap) (n0 : Nat) {ks : Int32} {fm : Value} (hks : ¬ ks = 0) (hfm : fm.isRef = true) (CS : Sta Z Z.heap "java/lang/String" "COMPACT_STRINGS" "Z" (.int ks)) (FS : Sta Z Z.heap "jdk/internal/util/Preconditions" "SIOOBE_FORMATTER" "Ljava/util/function/BiFunction;" fm) (gx : n0 ≤ x0) (E : Exa Z h0 x0 "java/lang/String") (Fc : Fld Z h0 x0 "java/lang/String" "coder" "B" (.int 0)) (Fv : Fld Z h0 x0 "java/lang/String" "value" "[B" .null) (O : Old Z n0 h0) {ka : ClassId} {z0 z1 : Int32} (hz0 : z0.toInt ≤ 255) (hz1 : z1.toInt ≤ 255) (Va : Arv Z h0 x1 ka .char (2 : Int32) [(.int z0), (.int z1)] (.int 0)) :
    OwnMet l Z (⟨"java/lang/String", "<init>", "([C)V"⟩ : MethodName) jdk_42_method_3_code 2 none [] ({ frames := 3, cells := 1, slots := 2, locals := 52 } : Room) #[(.ref x0), (.ref x1)] h0 (fun v h L => ∃ b k, v = none ∧ Fr n0 L ∧ Keep h0 h [x0] ∧ Fld Z h x0 "java/lang/String" "coder" "B" (.int 0) ∧ Fld Z h x0 "java/lang/String" "value" "[B" (.ref b) ∧ Arv Z h b k .byte (2 : Int32) [(.int z0.toInt8.toInt32), (.int z1.toInt8.toInt32)] (.int 0)) := by
  refine own_body (plainFor_of_name pn_0) (fun m => ef_i1_2 m x0 x1) ?_
  intro p e s m below meth c s₁ X0 hx hby hml hown hnm hret hlk hZ e0
  replace hown : s.vm.findClass "java/lang/String" = some m.cls := hown
  replace hml : c.maxLocals = 2 := hml
  have N0 := Fr.nil n0
  show Ends p.tables e below _ (s₁.setTop (mkF m 0 #[.val (.ref x0), .val (.ref x1)] []))
  refine own_aloadN X0 hx hby d2_0 rfl rfl rfl ?_
  refine own_aloadN X0 hx hby d2_1 rfl rfl rfl ?_
  refine own_iconst X0 hx hby d2_2 rfl (0 : Int32) rfl ?_
  refine own_aloadN X0 hx hby d2_3 rfl rfl rfl ?_
  refine own_arraylength X0 hx hby hZ e0 Va d2_4 rfl ?_
  refine own_aconstNull X0 hx hby d2_5 rfl ?_
  refine own_special X0 hx hby hZ (a := x0) (argsL := [(.ref x1), (.int (0 : Int32)), (.int (2 : Int32)), .null]) (rest := []) hown rfl (hw _ tw_11) (hw _ tw_12) (hw _ tw_6) (hw _ tw_14) (by decide) (rmi4_2 l Z a0 hw x0 x1 h0 n0 hks hfm CS FS gx E Fc Fv O hz0 hz1 Va) e0 (by rw [hml]; rfl) pd_3 rfl (by decide) (W := 0) (Nat.le_refl _) (by decide) (by decide) (by decide) d2_6 rfl rfl (fun v186 T186 L186 X186 hQ186 => ?_)
  obtain ⟨b186, k186, rfl, N186q, K186, B186, D186, V186⟩ := hQ186
  show Ends p.tables e below _ (T186.setTop (mkF m 9 #[.val (.ref x0), .val (.ref x1)] []))
  refine own_retV X186 hx hby hret hlk d2_9 (by decide) (by decide) ?_
  have f187 := ((Keep.refl h0 [x0]).trans K186 (allS (Or.inl (by simp)) all0))
  exact ⟨b186, _, rfl, (Fr.app N0 N186q), f187, B186, D186, V186⟩
set_option maxRecDepth 65536 in
set_option maxHeartbeats 40000000 in
theorem rmi4_3 (l : Launch) (Z : State) (a0 : Array Value) (hw : ∀ d ∈ tables_1, d.before a0 Z = true) (x0 : Addr) (x1 : Addr) (h0 : Heap) (n0 : Nat) {ks : Int32} {fm : Value} (hks : ¬ ks = 0) (hfm : fm.isRef = true) (CS : Sta Z Z.heap "java/lang/String" "COMPACT_STRINGS" "Z" (.int ks)) (FS : Sta Z Z.heap "jdk/internal/util/Preconditions" "SIOOBE_FORMATTER" "Ljava/util/function/BiFunction;" fm) (gx : n0 ≤ x0) (E : Exa Z h0 x0 "java/lang/String") (Fc : Fld Z h0 x0 "java/lang/String" "coder" "B" (.int 0)) (Fv : Fld Z h0 x0 "java/lang/String" "value" "[B" .null) (O : Old Z n0 h0) {ka : ClassId} {z0 z1 z2 : Int32} (hz0 : z0.toInt ≤ 255) (hz1 : z1.toInt ≤ 255) (hz2 : z2.toInt ≤ 255) (Va : Arv Z h0 x1 ka .char (3 : Int32) [(.int z0), (.int z1), (.int z2)] (.int 0)) :
    OwnMet l Z (⟨"java/lang/String", "<init>", "([CIILjava/lang/Void;)V"⟩ : MethodName) jdk_42_method_149_code 6 none [] ({ frames := 2, cells := 1, slots := 3, locals := 35 } : Room) #[(.ref x0), (.ref x1), (.int (0 : Int32)), (.int (3 : Int32)), .null] h0 (fun v h L => ∃ b k, v = none ∧ Fr n0 L ∧ Keep h0 h [x0] ∧ Fld Z h x0 "java/lang/String" "coder" "B" (.int 0) ∧ Fld Z h x0 "java/lang/String" "value" "[B" (.ref b) ∧ Arv Z h b k .byte (3 : Int32) [(.int z0.toInt8.toInt32), (.int z1.toInt8.toInt32), (.int z2.toInt8.toInt32)] (.int 0)) := by
  refine own_body (plainFor_of_name pn_0) (fun m => ef_i4_3 m x0 x1) ?_
  intro p e s m below meth c s₁ X0 hx hby hml hown hnm hret hlk hZ e0
  replace hown : s.vm.findClass "java/lang/String" = some m.cls := hown
  replace hml : c.maxLocals = 6 := hml
  have N0 := Fr.nil n0
  show Ends p.tables e below _ (s₁.setTop (mkF m 0 #[.val (.ref x0), .val (.ref x1), .val (.int (0 : Int32)), .val (.int (3 : Int32)), .val .null, .unset] []))
  refine own_aloadN X0 hx hby d3_0 rfl rfl rfl ?_
  refine own_initO X0 hx hby hZ hown (hw _ tw_15) (hw _ tw_16) (hw _ tw_17) e0 (by rw [hml]; rfl) (by decide) (W := 0) (Nat.le_refl _) (by decide) d3_1 rfl (fun T188 X188 e188 => ?_)
  refine own_iloadN X188 hx hby d3_4 rfl rfl ?_
  refine own_if_ne X188 hx hby d3_5 (pcY := 27) (pcN := 8) (by decide) rfl (fun (hc189 : ¬ (3 : Int32) = (0 : Int32)) => ?_) (fun (hc189 : (3 : Int32) = (0 : Int32)) => False.elim (by exact absurd hc189 (by decide)))
  refine own_getstatic X188 hx hby hZ hown (host := "") (Or.inl (hw _ tw_29)) Via.refl e188 (CS.ext (O).2) d3_27 rfl (fun T190 X190 e190 => ?_)
  refine own_if_eq X190 hx hby d3_30 (pcY := 58) (pcN := 33) (by decide) rfl (fun (hc191 : ks = (0 : Int32)) => False.elim (by exact hks hc191)) (fun (hc191 : ¬ ks = (0 : Int32)) => ?_)
  refine own_aloadN X190 hx hby d3_33 rfl rfl rfl ?_
  refine own_iloadN X190 hx hby d3_34 rfl rfl ?_
  refine own_iloadN X190 hx hby d3_35 rfl rfl ?_
  refine own_static X190 hx hby hZ (argsL := [(.ref x1), (.int (0 : Int32)), (.int (3 : Int32))]) (rest := []) hown (hw _ tw_30) (hw _ tw_31) (hw _ tw_32) (hw _ tw_33) (by decide) (rmc1_3 l Z a0 hw x1 h0 n0 O hz0 hz1 hz2 Va) e190 (by rw [hml]; rfl) pd_4 rfl (by decide) (W := 0) (Nat.le_refl _) (by decide) (by decide) (by decide) d3_36 rfl rfl (fun v192 T192 L192 X192 hQ192 => ?_)
  obtain ⟨b192, k192, rfl, N192q, K192, sq192, gq192, V192⟩ := hQ192
  show Ends p.tables e below _ (T192.setTop (mkF m 39 #[.val (.ref x0), .val (.ref x1), .val (.int (0 : Int32)), .val (.int (3 : Int32)), .val .null, .unset] [(.ref b192)]))
  refine own_astore X192 hx hby d3_39 rfl #[.val (.ref x0), .val (.ref x1), .val (.int (0 : Int32)), .val (.int (3 : Int32)), .val .null, .val (.ref b192)] rfl rfl ?_
  refine own_aloadN X192 hx hby d3_41 rfl rfl rfl ?_
  refine own_aload X192 hx hby d3_42 rfl rfl rfl ?_
  refine own_iloadN X192 hx hby d3_44 rfl rfl ?_
  refine own_static X192 hx hby hZ (argsL := [(.ref b192), (.int (3 : Int32))]) (rest := [(.ref x0)]) hown (hw _ tw_37) (hw _ tw_38) (hw _ tw_32) (hw _ tw_39) (by decide) (rmcal_3 l Z a0 hw b192 T192.heap V192) rfl (by rw [hml]; rfl) pd_5 rfl (by decide) (W := 1) (Nat.le_refl _) (by decide) (by decide) (by decide) d3_45 rfl rfl (fun v193 T193 L193 X193 hQ193 => ?_)
  obtain ⟨rfl, rfl, e193⟩ := hQ193
  show Ends p.tables e below _ (T193.setTop (mkF m 48 #[.val (.ref x0), .val (.ref x1), .val (.int (0 : Int32)), .val (.int (3 : Int32)), .val .null, .val (.ref b192)] [(.int (0 : Int32)), (.ref x0)]))
  have f194 := (E.keep K192)
  have f195 := (Fc.keep K192 nin0)
  refine own_putfield X193 hx hby hZ hown (host := "") (Or.inl (hw _ tw_25)) Via.refl e193 f195 f194 (Or.inr ⟨(hw _ tw_21), rfl, hnm⟩) (hw _ tw_5) (ty := .byte) (by decide) rfl rfl (Fr.app (Fr.app N0 N192q) (Fr.nil _)) gx  d3_48 rfl (fun T196 h196 L196 X196 e196 W196 N196 => ?_)
  have F196 := f195.same W196
  refine own_aloadN X196 hx hby d3_51 rfl rfl rfl ?_
  refine own_aload X196 hx hby d3_52 rfl rfl rfl ?_
  have f197 := (f194.wr W196)
  have f198 := ((Fv.keep K192 nin0).other W196 (Or.inr (slot_ne (Or.inr (hw _ tw_20)) (Or.inr (hw _ tw_21)) (by decide) (t := (.array .byte)) (t' := .byte) (by decide) (by decide))))
  refine own_putfield X196 hx hby hZ hown (host := "") (Or.inl (hw _ tw_24)) Via.refl e196 f198 f197 (Or.inr ⟨(hw _ tw_20), rfl, hnm⟩) (hw _ tw_5) (ty := (.array .byte)) (by decide) rfl rfl N196 gx  d3_54 rfl (fun T199 h199 L199 X199 e199 W199 N199 => ?_)
  have F199 := f198.same W199
  refine own_retV X199 hx hby hret hlk d3_57 (by decide) (by decide) ?_
  rw [e199]
  have f200 := ((((Keep.refl h0 [x0]).trans K192 all0).wr W196 (Or.inl (by simp))).wr W199 (Or.inl (by simp)))
  have f201 := (F196.other W199 (Or.inr (slot_ne (Or.inr (hw _ tw_21)) (Or.inr (hw _ tw_20)) (by decide) (t := .byte) (t' := (.array .byte)) (by decide) (by decide))))
  have f202 := ((V192.other W196 (Ne.symm (Nat.ne_of_lt (Nat.lt_of_lt_of_le E.lt sq192)))).other W199 (Ne.symm (Nat.ne_of_lt (Nat.lt_of_lt_of_le E.lt sq192))))
  exact ⟨b192, _, rfl, N199, f200, f201, F199, f202⟩
set_option maxRecDepth 65536 in
set_option maxHeartbeats 40000000 in
theorem rmi1_3 (l : Launch) (Z : State) (a0 : Array Value) (hw : ∀ d ∈ tables_1, d.before a0 Z = true) (x0 : Addr) (x1 : Addr) (h0 : Heap) (n0 : Nat) {ks : Int32} {fm : Value} (hks : ¬ ks = 0) (hfm : fm.isRef = true) (CS : Sta Z Z.heap "java/lang/String" "COMPACT_STRINGS" "Z" (.int ks)) (FS : Sta Z Z.heap "jdk/internal/util/Preconditions" "SIOOBE_FORMATTER" "Ljava/util/function/BiFunction;" fm) (gx : n0 ≤ x0) (E : Exa Z h0 x0 "java/lang/String") (Fc : Fld Z h0 x0 "java/lang/String" "coder" "B" (.int 0)) (Fv : Fld Z h0 x0 "java/lang/String" "value" "[B" .null) (O : Old Z n0 h0) {ka : ClassId} {z0 z1 z2 : Int32} (hz0 : z0.toInt ≤ 255) (hz1 : z1.toInt ≤ 255) (hz2 : z2.toInt ≤ 255) (Va : Arv Z h0 x1 ka .char (3 : Int32) [(.int z0), (.int z1), (.int z2)] (.int 0)) :
    OwnMet l Z (⟨"java/lang/String", "<init>", "([C)V"⟩ : MethodName) jdk_42_method_3_code 2 none [] ({ frames := 3, cells := 1, slots := 3, locals := 52 } : Room) #[(.ref x0), (.ref x1)] h0 (fun v h L => ∃ b k, v = none ∧ Fr n0 L ∧ Keep h0 h [x0] ∧ Fld Z h x0 "java/lang/String" "coder" "B" (.int 0) ∧ Fld Z h x0 "java/lang/String" "value" "[B" (.ref b) ∧ Arv Z h b k .byte (3 : Int32) [(.int z0.toInt8.toInt32), (.int z1.toInt8.toInt32), (.int z2.toInt8.toInt32)] (.int 0)) := by
  refine own_body (plainFor_of_name pn_0) (fun m => ef_i1_3 m x0 x1) ?_
  intro p e s m below meth c s₁ X0 hx hby hml hown hnm hret hlk hZ e0
  replace hown : s.vm.findClass "java/lang/String" = some m.cls := hown
  replace hml : c.maxLocals = 2 := hml
  have N0 := Fr.nil n0
  show Ends p.tables e below _ (s₁.setTop (mkF m 0 #[.val (.ref x0), .val (.ref x1)] []))
  refine own_aloadN X0 hx hby d2_0 rfl rfl rfl ?_
  refine own_aloadN X0 hx hby d2_1 rfl rfl rfl ?_
  refine own_iconst X0 hx hby d2_2 rfl (0 : Int32) rfl ?_
  refine own_aloadN X0 hx hby d2_3 rfl rfl rfl ?_
  refine own_arraylength X0 hx hby hZ e0 Va d2_4 rfl ?_
  refine own_aconstNull X0 hx hby d2_5 rfl ?_
  refine own_special X0 hx hby hZ (a := x0) (argsL := [(.ref x1), (.int (0 : Int32)), (.int (3 : Int32)), .null]) (rest := []) hown rfl (hw _ tw_11) (hw _ tw_12) (hw _ tw_6) (hw _ tw_14) (by decide) (rmi4_3 l Z a0 hw x0 x1 h0 n0 hks hfm CS FS gx E Fc Fv O hz0 hz1 hz2 Va) e0 (by rw [hml]; rfl) pd_3 rfl (by decide) (W := 0) (Nat.le_refl _) (by decide) (by decide) (by decide) d2_6 rfl rfl (fun v203 T203 L203 X203 hQ203 => ?_)
  obtain ⟨b203, k203, rfl, N203q, K203, B203, D203, V203⟩ := hQ203
  show Ends p.tables e below _ (T203.setTop (mkF m 9 #[.val (.ref x0), .val (.ref x1)] []))
  refine own_retV X203 hx hby hret hlk d2_9 (by decide) (by decide) ?_
  have f204 := ((Keep.refl h0 [x0]).trans K203 (allS (Or.inl (by simp)) all0))
  exact ⟨b203, _, rfl, (Fr.app N0 N203q), f204, B203, D203, V203⟩
set_option maxRecDepth 65536 in
set_option maxHeartbeats 40000000 in
theorem rmi4_4 (l : Launch) (Z : State) (a0 : Array Value) (hw : ∀ d ∈ tables_1, d.before a0 Z = true) (x0 : Addr) (x1 : Addr) (h0 : Heap) (n0 : Nat) {ks : Int32} {fm : Value} (hks : ¬ ks = 0) (hfm : fm.isRef = true) (CS : Sta Z Z.heap "java/lang/String" "COMPACT_STRINGS" "Z" (.int ks)) (FS : Sta Z Z.heap "jdk/internal/util/Preconditions" "SIOOBE_FORMATTER" "Ljava/util/function/BiFunction;" fm) (gx : n0 ≤ x0) (E : Exa Z h0 x0 "java/lang/String") (Fc : Fld Z h0 x0 "java/lang/String" "coder" "B" (.int 0)) (Fv : Fld Z h0 x0 "java/lang/String" "value" "[B" .null) (O : Old Z n0 h0) {ka : ClassId} {z0 z1 z2 z3 : Int32} (hz0 : z0.toInt ≤ 255) (hz1 : z1.toInt ≤ 255) (hz2 : z2.toInt ≤ 255) (hz3 : z3.toInt ≤ 255) (Va : Arv Z h0 x1 ka .char (4 : Int32) [(.int z0), (.int z1), (.int z2), (.int z3)] (.int 0)) :
    OwnMet l Z (⟨"java/lang/String", "<init>", "([CIILjava/lang/Void;)V"⟩ : MethodName) jdk_42_method_149_code 6 none [] ({ frames := 2, cells := 1, slots := 4, locals := 35 } : Room) #[(.ref x0), (.ref x1), (.int (0 : Int32)), (.int (4 : Int32)), .null] h0 (fun v h L => ∃ b k, v = none ∧ Fr n0 L ∧ Keep h0 h [x0] ∧ Fld Z h x0 "java/lang/String" "coder" "B" (.int 0) ∧ Fld Z h x0 "java/lang/String" "value" "[B" (.ref b) ∧ Arv Z h b k .byte (4 : Int32) [(.int z0.toInt8.toInt32), (.int z1.toInt8.toInt32), (.int z2.toInt8.toInt32), (.int z3.toInt8.toInt32)] (.int 0)) := by
  refine own_body (plainFor_of_name pn_0) (fun m => ef_i4_4 m x0 x1) ?_
  intro p e s m below meth c s₁ X0 hx hby hml hown hnm hret hlk hZ e0
  replace hown : s.vm.findClass "java/lang/String" = some m.cls := hown
  replace hml : c.maxLocals = 6 := hml
  have N0 := Fr.nil n0
  show Ends p.tables e below _ (s₁.setTop (mkF m 0 #[.val (.ref x0), .val (.ref x1), .val (.int (0 : Int32)), .val (.int (4 : Int32)), .val .null, .unset] []))
  refine own_aloadN X0 hx hby d3_0 rfl rfl rfl ?_
  refine own_initO X0 hx hby hZ hown (hw _ tw_15) (hw _ tw_16) (hw _ tw_17) e0 (by rw [hml]; rfl) (by decide) (W := 0) (Nat.le_refl _) (by decide) d3_1 rfl (fun T205 X205 e205 => ?_)
  refine own_iloadN X205 hx hby d3_4 rfl rfl ?_
  refine own_if_ne X205 hx hby d3_5 (pcY := 27) (pcN := 8) (by decide) rfl (fun (hc206 : ¬ (4 : Int32) = (0 : Int32)) => ?_) (fun (hc206 : (4 : Int32) = (0 : Int32)) => False.elim (by exact absurd hc206 (by decide)))
  refine own_getstatic X205 hx hby hZ hown (host := "") (Or.inl (hw _ tw_29)) Via.refl e205 (CS.ext (O).2) d3_27 rfl (fun T207 X207 e207 => ?_)
  refine own_if_eq X207 hx hby d3_30 (pcY := 58) (pcN := 33) (by decide) rfl (fun (hc208 : ks = (0 : Int32)) => False.elim (by exact hks hc208)) (fun (hc208 : ¬ ks = (0 : Int32)) => ?_)
  refine own_aloadN X207 hx hby d3_33 rfl rfl rfl ?_
  refine own_iloadN X207 hx hby d3_34 rfl rfl ?_
  refine own_iloadN X207 hx hby d3_35 rfl rfl ?_
  refine own_static X207 hx hby hZ (argsL := [(.ref x1), (.int (0 : Int32)), (.int (4 : Int32))]) (rest := []) hown (hw _ tw_30) (hw _ tw_31) (hw _ tw_32) (hw _ tw_33) (by decide) (rmc1_4 l Z a0 hw x1 h0 n0 O hz0 hz1 hz2 hz3 Va) e207 (by rw [hml]; rfl) pd_4 rfl (by decide) (W := 0) (Nat.le_refl _) (by decide) (by decide) (by decide) d3_36 rfl rfl (fun v209 T209 L209 X209 hQ209 => ?_)
  obtain ⟨b209, k209, rfl, N209q, K209, sq209, gq209, V209⟩ := hQ209
  show Ends p.tables e below _ (T209.setTop (mkF m 39 #[.val (.ref x0), .val (.ref x1), .val (.int (0 : Int32)), .val (.int (4 : Int32)), .val .null, .unset] [(.ref b209)]))
  refine own_astore X209 hx hby d3_39 rfl #[.val (.ref x0), .val (.ref x1), .val (.int (0 : Int32)), .val (.int (4 : Int32)), .val .null, .val (.ref b209)] rfl rfl ?_
  refine own_aloadN X209 hx hby d3_41 rfl rfl rfl ?_
  refine own_aload X209 hx hby d3_42 rfl rfl rfl ?_
  refine own_iloadN X209 hx hby d3_44 rfl rfl ?_
  refine own_static X209 hx hby hZ (argsL := [(.ref b209), (.int (4 : Int32))]) (rest := [(.ref x0)]) hown (hw _ tw_37) (hw _ tw_38) (hw _ tw_32) (hw _ tw_39) (by decide) (rmcal_4 l Z a0 hw b209 T209.heap V209) rfl (by rw [hml]; rfl) pd_5 rfl (by decide) (W := 1) (Nat.le_refl _) (by decide) (by decide) (by decide) d3_45 rfl rfl (fun v210 T210 L210 X210 hQ210 => ?_)
  obtain ⟨rfl, rfl, e210⟩ := hQ210
  show Ends p.tables e below _ (T210.setTop (mkF m 48 #[.val (.ref x0), .val (.ref x1), .val (.int (0 : Int32)), .val (.int (4 : Int32)), .val .null, .val (.ref b209)] [(.int (0 : Int32)), (.ref x0)]))
  have f211 := (E.keep K209)
  have f212 := (Fc.keep K209 nin0)
  refine own_putfield X210 hx hby hZ hown (host := "") (Or.inl (hw _ tw_25)) Via.refl e210 f212 f211 (Or.inr ⟨(hw _ tw_21), rfl, hnm⟩) (hw _ tw_5) (ty := .byte) (by decide) rfl rfl (Fr.app (Fr.app N0 N209q) (Fr.nil _)) gx  d3_48 rfl (fun T213 h213 L213 X213 e213 W213 N213 => ?_)
  have F213 := f212.same W213
  refine own_aloadN X213 hx hby d3_51 rfl rfl rfl ?_
  refine own_aload X213 hx hby d3_52 rfl rfl rfl ?_
  have f214 := (f211.wr W213)
  have f215 := ((Fv.keep K209 nin0).other W213 (Or.inr (slot_ne (Or.inr (hw _ tw_20)) (Or.inr (hw _ tw_21)) (by decide) (t := (.array .byte)) (t' := .byte) (by decide) (by decide))))
  refine own_putfield X213 hx hby hZ hown (host := "") (Or.inl (hw _ tw_24)) Via.refl e213 f215 f214 (Or.inr ⟨(hw _ tw_20), rfl, hnm⟩) (hw _ tw_5) (ty := (.array .byte)) (by decide) rfl rfl N213 gx  d3_54 rfl (fun T216 h216 L216 X216 e216 W216 N216 => ?_)
  have F216 := f215.same W216
  refine own_retV X216 hx hby hret hlk d3_57 (by decide) (by decide) ?_
  rw [e216]
  have f217 := ((((Keep.refl h0 [x0]).trans K209 all0).wr W213 (Or.inl (by simp))).wr W216 (Or.inl (by simp)))
  have f218 := (F213.other W216 (Or.inr (slot_ne (Or.inr (hw _ tw_21)) (Or.inr (hw _ tw_20)) (by decide) (t := .byte) (t' := (.array .byte)) (by decide) (by decide))))
  have f219 := ((V209.other W213 (Ne.symm (Nat.ne_of_lt (Nat.lt_of_lt_of_le E.lt sq209)))).other W216 (Ne.symm (Nat.ne_of_lt (Nat.lt_of_lt_of_le E.lt sq209))))
  exact ⟨b209, _, rfl, N216, f217, f218, F216, f219⟩
set_option maxRecDepth 65536 in
set_option maxHeartbeats 40000000 in
theorem rmi1_4 (l : Launch) (Z : State) (a0 : Array Value) (hw : ∀ d ∈ tables_1, d.before a0 Z = true) (x0 : Addr) (x1 : Addr) (h0 : Heap) (n0 : Nat) {ks : Int32} {fm : Value} (hks : ¬ ks = 0) (hfm : fm.isRef = true) (CS : Sta Z Z.heap "java/lang/String" "COMPACT_STRINGS" "Z" (.int ks)) (FS : Sta Z Z.heap "jdk/internal/util/Preconditions" "SIOOBE_FORMATTER" "Ljava/util/function/BiFunction;" fm) (gx : n0 ≤ x0) (E : Exa Z h0 x0 "java/lang/String") (Fc : Fld Z h0 x0 "java/lang/String" "coder" "B" (.int 0)) (Fv : Fld Z h0 x0 "java/lang/String" "value" "[B" .null) (O : Old Z n0 h0) {ka : ClassId} {z0 z1 z2 z3 : Int32} (hz0 : z0.toInt ≤ 255) (hz1 : z1.toInt ≤ 255) (hz2 : z2.toInt ≤ 255) (hz3 : z3.toInt ≤ 255) (Va : Arv Z h0 x1 ka .char (4 : Int32) [(.int z0), (.int z1), (.int z2), (.int z3)] (.int 0)) :
    OwnMet l Z (⟨"java/lang/String", "<init>", "([C)V"⟩ : MethodName) jdk_42_method_3_code 2 none [] ({ frames := 3, cells := 1, slots := 4, locals := 52 } : Room) #[(.ref x0), (.ref x1)] h0 (fun v h L => ∃ b k, v = none ∧ Fr n0 L ∧ Keep h0 h [x0] ∧ Fld Z h x0 "java/lang/String" "coder" "B" (.int 0) ∧ Fld Z h x0 "java/lang/String" "value" "[B" (.ref b) ∧ Arv Z h b k .byte (4 : Int32) [(.int z0.toInt8.toInt32), (.int z1.toInt8.toInt32), (.int z2.toInt8.toInt32), (.int z3.toInt8.toInt32)] (.int 0)) := by
  refine own_body (plainFor_of_name pn_0) (fun m => ef_i1_4 m x0 x1) ?_
  intro p e s m below meth c s₁ X0 hx hby hml hown hnm hret hlk hZ e0
  replace hown : s.vm.findClass "java/lang/String" = some m.cls := hown
  replace hml : c.maxLocals = 2 := hml
  have N0 := Fr.nil n0
  show Ends p.tables e below _ (s₁.setTop (mkF m 0 #[.val (.ref x0), .val (.ref x1)] []))
  refine own_aloadN X0 hx hby d2_0 rfl rfl rfl ?_
  refine own_aloadN X0 hx hby d2_1 rfl rfl rfl ?_
  refine own_iconst X0 hx hby d2_2 rfl (0 : Int32) rfl ?_
  refine own_aloadN X0 hx hby d2_3 rfl rfl rfl ?_
  refine own_arraylength X0 hx hby hZ e0 Va d2_4 rfl ?_
  refine own_aconstNull X0 hx hby d2_5 rfl ?_
  refine own_special X0 hx hby hZ (a := x0) (argsL := [(.ref x1), (.int (0 : Int32)), (.int (4 : Int32)), .null]) (rest := []) hown rfl (hw _ tw_11) (hw _ tw_12) (hw _ tw_6) (hw _ tw_14) (by decide) (rmi4_4 l Z a0 hw x0 x1 h0 n0 hks hfm CS FS gx E Fc Fv O hz0 hz1 hz2 hz3 Va) e0 (by rw [hml]; rfl) pd_3 rfl (by decide) (W := 0) (Nat.le_refl _) (by decide) (by decide) (by decide) d2_6 rfl rfl (fun v220 T220 L220 X220 hQ220 => ?_)
  obtain ⟨b220, k220, rfl, N220q, K220, B220, D220, V220⟩ := hQ220
  show Ends p.tables e below _ (T220.setTop (mkF m 9 #[.val (.ref x0), .val (.ref x1)] []))
  refine own_retV X220 hx hby hret hlk d2_9 (by decide) (by decide) ?_
  have f221 := ((Keep.refl h0 [x0]).trans K220 (allS (Or.inl (by simp)) all0))
  exact ⟨b220, _, rfl, (Fr.app N0 N220q), f221, B220, D220, V220⟩
set_option maxRecDepth 65536 in
set_option maxHeartbeats 40000000 in
theorem rmpl_0 (l : Launch) (Z : State) (a0 : Array Value) (hw : ∀ d ∈ tables_1, d.before a0 Z = true) (x1 : Int32) (x2 : Int32) (x3 : Int32) (h0 : Heap) (n0 : Nat) (hEL : EW Z a0 consts_1) (O : Old Z n0 h0) {ks : Int32} {fm : Value} (hks : ¬ ks = 0) (hfm : fm.isRef = true) (CS : Sta Z Z.heap "java/lang/String" "COMPACT_STRINGS" "Z" (.int ks)) (FS : Sta Z Z.heap "jdk/internal/util/Preconditions" "SIOOBE_FORMATTER" "Ljava/util/function/BiFunction;" fm) (hn1 : nar .char x1 = x1) (hf1 : fits .char (.int x1) = true) (hx1 : x1.toInt ≤ 255) (hn2 : nar .char x2 = x2) (hf2 : fits .char (.int x2) = true) (hx2 : x2.toInt ≤ 255) (hn3 : nar .char x3 = x3) (hf3 : fits .char (.int x3) = true) (hx3 : x3.toInt ≤ 255) :
    OwnMetH l Z consts_1 [] (⟨"com/example/portunus/portunus/io/InvalidationDirectoryOfPinLaw", "plain", "(ICCC)Ljava/lang/String;"⟩ : MethodName) method_3_code 4 (some (.object "java/lang/String")) [] ({ frames := 3, cells := 6, slots := 12, locals := 61 } : Room) #[(.int (0 : Int32)), (.int x1), (.int x2), (.int x3)] h0 (fun v h L => ∃ a b k, v = some (.ref a) ∧ Fr n0 L ∧ Keep h0 h [] ∧ Exa Z h a "java/lang/String" ∧ Fld Z h a "java/lang/String" "coder" "B" (.int 0) ∧ Fld Z h a "java/lang/String" "value" "[B" (.ref b) ∧ Arv Z h b k .byte (0 : Int32) [] (.int 0)) := by
  refine own_bodyH (plainFor_of_name pn_3) (fun m => ef_pl_0 m x1 x2 x3) ?_
  intro p e s m below meth c s₁ X0 hx hby hml hown hnm hret hlk hZ e0 eh hS hH hxs
  replace hown : (s.setVm s.vm).vm.findClass "com/example/portunus/portunus/io/InvalidationDirectoryOfPinLaw" = some m.cls := hown
  replace hml : c.maxLocals = 4 := hml
  have N0 := Fr.nil n0
  show Ends p.tables e below _ (s₁.setTop (mkF m 0 #[.val (.int (0 : Int32)), .val (.int x1), .val (.int x2), .val (.int x3)] []))
  refine own_iloadN X0 hx hby d1_0 rfl rfl ?_
  refine own_if_ne X0 hx hby d1_1 (pcY := 15) (pcN := 4) (by decide) rfl (fun (hc222 : ¬ (0 : Int32) = (0 : Int32)) => False.elim (by exact absurd hc222 (by decide))) (fun (hc222 : (0 : Int32) = (0 : Int32)) => ?_)
  refine own_new X0 hx hby hZ hown (hw _ tw_4) (hw _ tw_5) (hw _ tw_6) e0 (by decide) (by decide) d1_4 rfl (fun T223 h223 b223 X223 e223 g223 E223 A223 D223 => ?_)
  have ge_b223 : n0 ≤ b223 := own_ge O g223
  have sz_b223 : h0.size ≤ b223 := Nat.le_trans (Keep.refl h0 []).1 (Nat.le_of_eq g223.symm)
  have F223_value : Fld Z h223 b223 "java/lang/String" "value" "[B" .null := D223 (Or.inr (hw _ tw_20)) (ty := (.array .byte)) (by decide)
  have F223_coder : Fld Z h223 b223 "java/lang/String" "coder" "B" (.int (0 : Int32)) := D223 (Or.inr (hw _ tw_21)) (ty := .byte) (by decide)
  refine own_dup X223 hx hby d1_7 rfl rfl ?_
  refine own_iconst X223 hx hby d1_8 rfl (0 : Int32) rfl ?_
  have f225 := (O.ext E223)
  refine own_newarray X223 hx hby hZ (aty := .char) (hw _ tw_7) e223 (by decide) 0 (by decide) (by decide) (by decide) (by decide) .char rfl [] rfl d1_9 rfl (fun T224 h224 b224 k224 X224 e224 g224 E224 V224 => ?_)
  have ge_b224 : n0 ≤ b224 := own_ge f225 g224
  have f226 := ((Keep.refl h0 []).ext E223)
  have sz_b224 : h0.size ≤ b224 := Nat.le_trans f226.1 (Nat.le_of_eq g224.symm)
  have ne_b223_b224 : b223 ≠ b224 := own_lt A223.lt g224
  have f228 := (A223.ext E224)
  have f229 := (F223_coder.ext E224)
  have f230 := (F223_value.ext E224)
  have f231 := (f225.ext E224)
  have f232 := (own_Re (own_Re (CHr.refl hH) E223) E224)
  have f233 := (Nat.le_trans (Nat.le_trans (Nat.le_refl _) E223.1) E224.1)
  refine own_specialH X224 hx hby hZ (a := b223) (argsL := [(.ref b224)]) (rest := [(.ref b223)]) hown rfl (hw _ tw_8) (hw _ tw_9) (hw _ tw_6) (hw _ tw_10) (by decide) (rmi1_0 l Z a0 hw b223 b224 h224 n0 hEL hks hfm CS FS ge_b223 f228 f229 f230 f231  V224) e224 hS f233 hEL f232.1 (by intro y hy; rw [List.mem_singleton.mp hy]; exact ⟨f228.lt, (Safe.ext E224 (CHv.ext E223 hH) (Safe.ext E223 hH (Safe.new (Nat.le_of_eq g223.symm))))⟩) (by rw [hml]; rfl) pd_6 rfl (by decide) (W := 1) (Nat.le_refl _) (by decide) (by decide) (by decide) d1_11 rfl rfl (fun v227 T227 L227 X227 hS hZ hown hR227 hQ227 => ?_)
  obtain ⟨b227, k227, rfl, N227q, K227, B227, D227, V227⟩ := hQ227
  show Ends p.tables e below _ (T227.setTop (mkF m 14 #[.val (.int (0 : Int32)), .val (.int x1), .val (.int x2), .val (.int x3)] [(.ref b223)]))
  have f234 := (f232.trans hR227)
  refine own_retH X227 hx hby hret hlk d1_14 (.ref b223) rfl (Or.inr (Or.inr ⟨rfl, rfl, rfl⟩)) hZ hEL (by rw [show T227.heap = _ from rfl, show s.heap = _ from eh]; exact f234) hS (by rw [show T227.heap = _ from rfl]; exact (Nat.le_refl _)) (by decide) (by decide) ?_
  have f235 := ((f226.ext E224).trans K227 (allS (Or.inr sz_b223) all0))
  have f236 := (f228.keep K227)
  exact ⟨b223, b227, _, rfl, (Fr.app N0 N227q), f235, f236, B227, D227, V227⟩
set_option maxRecDepth 65536 in
set_option maxHeartbeats 40000000 in
theorem rmws_0 (l : Launch) (Z : State) (a0 : Array Value) (hw : ∀ d ∈ tables_1, d.before a0 Z = true) (x1 : Int32) (x2 : Int32) (x3 : Int32) (h0 : Heap) (n0 : Nat) (O : Old Z n0 h0) {ks : Int32} {fm : Value} (hks : ¬ ks = 0) (hfm : fm.isRef = true) (CS : Sta Z Z.heap "java/lang/String" "COMPACT_STRINGS" "Z" (.int ks)) (FS : Sta Z Z.heap "jdk/internal/util/Preconditions" "SIOOBE_FORMATTER" "Ljava/util/function/BiFunction;" fm) (hn1 : nar .char x1 = x1) (hf1 : fits .char (.int x1) = true) (hx1 : x1.toInt ≤ 255) (hn2 : nar .char x2 = x2) (hf2 : fits .char (.int x2) = true) (hx2 : x2.toInt ≤ 255) (hn3 : nar .char x3 = x3) (hf3 : fits .char (.int x3) = true) (hx3 : x3.toInt ≤ 255) :
    OwnMet l Z (⟨"com/example/portunus/portunus/io/InvalidationDirectoryOfPinLaw", "withSlash", "(ICCC)Ljava/lang/String;"⟩ : MethodName) method_4_code 4 (some (.object "java/lang/String")) [] ({ frames := 4, cells := 3, slots := 6, locals := 66 } : Room) #[(.int (0 : Int32)), (.int x1), (.int x2), (.int x3)] h0 (fun v h L => ∃ a b k, v = some (.ref a) ∧ Fr n0 L ∧ Keep h0 h [] ∧ Exa Z h a "java/lang/String" ∧ Fld Z h a "java/lang/String" "coder" "B" (.int 0) ∧ Fld Z h a "java/lang/String" "value" "[B" (.ref b) ∧ Arv Z h b k .byte (1 : Int32) [(.int (47 : Int32).toInt8.toInt32)] (.int 0)) := by
  refine own_body (plainFor_of_name pn_3) (fun m => ef_ws_0 m x1 x2 x3) ?_
  intro p e s m below meth c s₁ X0 hx hby hml hown hnm hret hlk hZ e0
  replace hown : s.vm.findClass "com/example/portunus/portunus/io/InvalidationDirectoryOfPinLaw" = some m.cls := hown
  replace hml : c.maxLocals = 4 := hml
  have N0 := Fr.nil n0
  show Ends p.tables e below _ (s₁.setTop (mkF m 0 #[.val (.int (0 : Int32)), .val (.int x1), .val (.int x2), .val (.int x3)] []))
  refine own_iloadN X0 hx hby d5_0 rfl rfl ?_
  refine own_if_ne X0 hx hby d5_1 (pcY := 20) (pcN := 4) (by decide) rfl (fun (hc237 : ¬ (0 : Int32) = (0 : Int32)) => False.elim (by exact absurd hc237 (by decide))) (fun (hc237 : (0 : Int32) = (0 : Int32)) => ?_)
  refine own_new X0 hx hby hZ hown (hw _ tw_4) (hw _ tw_5) (hw _ tw_6) e0 (by decide) (by decide) d5_4 rfl (fun T238 h238 b238 X238 e238 g238 E238 A238 D238 => ?_)
  have ge_b238 : n0 ≤ b238 := own_ge O g238
  have sz_b238 : h0.size ≤ b238 := Nat.le_trans (Keep.refl h0 []).1 (Nat.le_of_eq g238.symm)
  have F238_value : Fld Z h238 b238 "java/lang/String" "value" "[B" .null := D238 (Or.inr (hw _ tw_20)) (ty := (.array .byte)) (by decide)
  have F238_coder : Fld Z h238 b238 "java/lang/String" "coder" "B" (.int (0 : Int32)) := D238 (Or.inr (hw _ tw_21)) (ty := .byte) (by decide)
  refine own_dup X238 hx hby d5_7 rfl rfl ?_
  refine own_iconst X238 hx hby d5_8 rfl (1 : Int32) rfl ?_
  have f240 := (O.ext E238)
  refine own_newarray X238 hx hby hZ (aty := .char) (hw _ tw_7) e238 (by decide) 1 (by decide) (by decide) (by decide) (by decide) .char rfl [(.int (0 : Int32))] rfl d5_9 rfl (fun T239 h239 b239 k239 X239 e239 g239 E239 V239 => ?_)
  have ge_b239 : n0 ≤ b239 := own_ge f240 g239
  have f241 := ((Keep.refl h0 []).ext E238)
  have sz_b239 : h0.size ≤ b239 := Nat.le_trans f241.1 (Nat.le_of_eq g239.symm)
  have ne_b238_b239 : b238 ≠ b239 := own_lt A238.lt g239
  refine own_dup X239 hx hby d5_11 rfl rfl ?_
  refine own_iconst X239 hx hby d5_12 rfl (0 : Int32) rfl ?_
  refine own_bipush X239 hx hby d5_13 rfl (47 : Int32) rfl ?_
  refine own_castore X239 hx hby hZ (47 : Int32) rfl e239 V239 (by decide) 0 rfl (show 0 < 1 by decide) [(.int (47 : Int32))] rfl rfl N0 ge_b239 d5_15 rfl (fun T242 h242 L242 X242 e242 W242 V242 N242 => ?_)
  have f244 := ((A238.ext E239).wr W242)
  have f245 := ((F238_coder.ext E239).other W242 (Or.inl ne_b238_b239))
  have f246 := ((F238_value.ext E239).other W242 (Or.inl ne_b238_b239))
  have f247 := ((f240.ext E239).wr W242 ge_b239)
  refine own_special X242 hx hby hZ (a := b238) (argsL := [(.ref b239)]) (rest := [(.ref b238)]) hown rfl (hw _ tw_8) (hw _ tw_9) (hw _ tw_6) (hw _ tw_10) (by decide) (rmi1_1 l Z a0 hw b238 b239 h242 n0 hks hfm CS FS ge_b238 f244 f245 f246 f247 (by decide) V242) e242 (by rw [hml]; rfl) pd_6 rfl (by decide) (W := 1) (Nat.le_refl _) (by decide) (by decide) (by decide) d5_16 rfl rfl (fun v243 T243 L243 X243 hQ243 => ?_)
  obtain ⟨b243, k243, rfl, N243q, K243, B243, D243, V243⟩ := hQ243
  show Ends p.tables e below _ (T243.setTop (mkF m 19 #[.val (.int (0 : Int32)), .val (.int x1), .val (.int x2), .val (.int x3)] [(.ref b238)]))
  refine own_ret X243 hx hby hret hlk d5_19 (.ref b238) rfl (Or.inr (Or.inr ⟨rfl, rfl, rfl⟩)) (by decide) (by decide) ?_
  have f248 := (((f241.ext E239).wr W242 (Or.inr sz_b239)).trans K243 (allS (Or.inr sz_b238) all0))
  have f249 := (f244.keep K243)
  exact ⟨b238, b243, _, rfl, (Fr.app N242 N243q), f248, f249, B243, D243, V243⟩
set_option maxRecDepth 65536 in
set_option maxHeartbeats 40000000 in
theorem rmpl_1 (l : Launch) (Z : State) (a0 : Array Value) (hw : ∀ d ∈ tables_1, d.before a0 Z = true) (x1 : Int32) (x2 : Int32) (x3 : Int32) (h0 : Heap) (n0 : Nat) (O : Old Z n0 h0) {ks : Int32} {fm : Value} (hks : ¬ ks = 0) (hfm : fm.isRef = true) (CS : Sta Z Z.heap "java/lang/String" "COMPACT_STRINGS" "Z" (.int ks)) (FS : Sta Z Z.heap "jdk/internal/util/Preconditions" "SIOOBE_FORMATTER" "Ljava/util/function/BiFunction;" fm) (hn1 : nar .char x1 = x1) (hf1 : fits .char (.int x1) = true) (hx1 : x1.toInt ≤ 255) (hn2 : nar .char x2 = x2) (hf2 : fits .char (.int x2) = true) (hx2 : x2.toInt ≤ 255) (hn3 : nar .char x3 = x3) (hf3 : fits .char (.int x3) = true) (hx3 : x3.toInt ≤ 255) :
    OwnMet l Z (⟨"com/example/portunus/portunus/io/InvalidationDirectoryOfPinLaw", "plain", "(ICCC)Ljava/lang/String;"⟩ : MethodName) method_3_code 4 (some (.object "java/lang/String")) [] ({ frames := 4, cells := 3, slots := 6, locals := 66 } : Room) #[(.int (1 : Int32)), (.int x1), (.int x2), (.int x3)] h0 (fun v h L => ∃ a b k, v = some (.ref a) ∧ Fr n0 L ∧ Keep h0 h [] ∧ Exa Z h a "java/lang/String" ∧ Fld Z h a "java/lang/String" "coder" "B" (.int 0) ∧ Fld Z h a "java/lang/String" "value" "[B" (.ref b) ∧ Arv Z h b k .byte (1 : Int32) [(.int x1.toInt8.toInt32)] (.int 0)) := by
  refine own_body (plainFor_of_name pn_3) (fun m => ef_pl_1 m x1 x2 x3) ?_
  intro p e s m below meth c s₁ X0 hx hby hml hown hnm hret hlk hZ e0
  replace hown : s.vm.findClass "com/example/portunus/portunus/io/InvalidationDirectoryOfPinLaw" = some m.cls := hown
  replace hml : c.maxLocals = 4 := hml
  have N0 := Fr.nil n0
  show Ends p.tables e below _ (s₁.setTop (mkF m 0 #[.val (.int (1 : Int32)), .val (.int x1), .val (.int x2), .val (.int x3)] []))
  refine own_iloadN X0 hx hby d1_0 rfl rfl ?_
  refine own_if_ne X0 hx hby d1_1 (pcY := 15) (pcN := 4) (by decide) rfl (fun (hc250 : ¬ (1 : Int32) = (0 : Int32)) => ?_) (fun (hc250 : (1 : Int32) = (0 : Int32)) => False.elim (by exact absurd hc250 (by decide)))
  refine own_iloadN X0 hx hby d1_15 rfl rfl ?_
  refine own_iconst X0 hx hby d1_16 rfl (1 : Int32) rfl ?_
  refine own_icmp_ne X0 hx hby d1_17 (pcY := 35) (pcN := 20) (by decide) rfl (fun (hc251 : ¬ (1 : Int32) = (1 : Int32)) => False.elim (by exact absurd hc251 (by decide))) (fun (hc251 : (1 : Int32) = (1 : Int32)) => ?_)
  refine own_new X0 hx hby hZ hown (hw _ tw_4) (hw _ tw_5) (hw _ tw_6) e0 (by decide) (by decide) d1_20 rfl (fun T252 h252 b252 X252 e252 g252 E252 A252 D252 => ?_)
  have ge_b252 : n0 ≤ b252 := own_ge O g252
  have sz_b252 : h0.size ≤ b252 := Nat.le_trans (Keep.refl h0 []).1 (Nat.le_of_eq g252.symm)
  have F252_value : Fld Z h252 b252 "java/lang/String" "value" "[B" .null := D252 (Or.inr (hw _ tw_20)) (ty := (.array .byte)) (by decide)
  have F252_coder : Fld Z h252 b252 "java/lang/String" "coder" "B" (.int (0 : Int32)) := D252 (Or.inr (hw _ tw_21)) (ty := .byte) (by decide)
  refine own_dup X252 hx hby d1_23 rfl rfl ?_
  refine own_iconst X252 hx hby d1_24 rfl (1 : Int32) rfl ?_
  have f254 := (O.ext E252)
  refine own_newarray X252 hx hby hZ (aty := .char) (hw _ tw_7) e252 (by decide) 1 (by decide) (by decide) (by decide) (by decide) .char rfl [(.int (0 : Int32))] rfl d1_25 rfl (fun T253 h253 b253 k253 X253 e253 g253 E253 V253 => ?_)
  have ge_b253 : n0 ≤ b253 := own_ge f254 g253
  have f255 := ((Keep.refl h0 []).ext E252)
  have sz_b253 : h0.size ≤ b253 := Nat.le_trans f255.1 (Nat.le_of_eq g253.symm)
  have ne_b252_b253 : b252 ≠ b253 := own_lt A252.lt g253
  refine own_dup X253 hx hby d1_27 rfl rfl ?_
  refine own_iconst X253 hx hby d1_28 rfl (0 : Int32) rfl ?_
  refine own_iloadN X253 hx hby d1_29 rfl rfl ?_
  refine own_castore X253 hx hby hZ x1 hn1 e253 V253 (by decide) 0 rfl (show 0 < 1 by decide) [(.int x1)] rfl hf1 N0 ge_b253 d1_30 rfl (fun T256 h256 L256 X256 e256 W256 V256 N256 => ?_)
  have f258 := ((A252.ext E253).wr W256)
  have f259 := ((F252_coder.ext E253).other W256 (Or.inl ne_b252_b253))
  have f260 := ((F252_value.ext E253).other W256 (Or.inl ne_b252_b253))
  have f261 := ((f254.ext E253).wr W256 ge_b253)
  refine own_special X256 hx hby hZ (a := b252) (argsL := [(.ref b253)]) (rest := [(.ref b252)]) hown rfl (hw _ tw_8) (hw _ tw_9) (hw _ tw_6) (hw _ tw_10) (by decide) (rmi1_1 l Z a0 hw b252 b253 h256 n0 hks hfm CS FS ge_b252 f258 f259 f260 f261 hx1 V256) e256 (by rw [hml]; rfl) pd_6 rfl (by decide) (W := 1) (Nat.le_refl _) (by decide) (by decide) (by decide) d1_31 rfl rfl (fun v257 T257 L257 X257 hQ257 => ?_)
  obtain ⟨b257, k257, rfl, N257q, K257, B257, D257, V257⟩ := hQ257
  show Ends p.tables e below _ (T257.setTop (mkF m 34 #[.val (.int (1 : Int32)), .val (.int x1), .val (.int x2), .val (.int x3)] [(.ref b252)]))
  refine own_ret X257 hx hby hret hlk d1_34 (.ref b252) rfl (Or.inr (Or.inr ⟨rfl, rfl, rfl⟩)) (by decide) (by decide) ?_
  have f262 := (((f255.ext E253).wr W256 (Or.inr sz_b253)).trans K257 (allS (Or.inr sz_b252) all0))
  have f263 := (f258.keep K257)
  exact ⟨b252, b257, _, rfl, (Fr.app N256 N257q), f262, f263, B257, D257, V257⟩
set_option maxRecDepth 65536 in
set_option maxHeartbeats 40000000 in
theorem rmws_1 (l : Launch) (Z : State) (a0 : Array Value) (hw : ∀ d ∈ tables_1, d.before a0 Z = true) (x1 : Int32) (x2 : Int32) (x3 : Int32) (h0 : Heap) (n0 : Nat) (O : Old Z n0 h0) {ks : Int32} {fm : Value} (hks : ¬ ks = 0) (hfm : fm.isRef = true) (CS : Sta Z Z.heap "java/lang/String" "COMPACT_STRINGS" "Z" (.int ks)) (FS : Sta Z Z.heap "jdk/internal/util/Preconditions" "SIOOBE_FORMATTER" "Ljava/util/function/BiFunction;" fm) (hn1 : nar .char x1 = x1) (hf1 : fits .char (.int x1) = true) (hx1 : x1.toInt ≤ 255) (hn2 : nar .char x2 = x2) (hf2 : fits .char (.int x2) = true) (hx2 : x2.toInt ≤ 255) (hn3 : nar .char x3 = x3) (hf3 : fits .char (.int x3) = true) (hx3 : x3.toInt ≤ 255) :
    OwnMet l Z (⟨"com/example/portunus/portunus/io/InvalidationDirectoryOfPinLaw", "withSlash", "(ICCC)Ljava/lang/String;"⟩ : MethodName) method_4_code 4 (some (.object "java/lang/String")) [] ({ frames := 4, cells := 3, slots := 8, locals := 66 } : Room) #[(.int (1 : Int32)), (.int x1), (.int x2), (.int x3)] h0 (fun v h L => ∃ a b k, v = some (.ref a) ∧ Fr n0 L ∧ Keep h0 h [] ∧ Exa Z h a "java/lang/String" ∧ Fld Z h a "java/lang/String" "coder" "B" (.int 0) ∧ Fld Z h a "java/lang/String" "value" "[B" (.ref b) ∧ Arv Z h b k .byte (2 : Int32) [(.int x1.toInt8.toInt32), (.int (47 : Int32).toInt8.toInt32)] (.int 0)) := by
  refine own_body (plainFor_of_name pn_3) (fun m => ef_ws_1 m x1 x2 x3) ?_
  intro p e s m below meth c s₁ X0 hx hby hml hown hnm hret hlk hZ e0
  replace hown : s.vm.findClass "com/example/portunus/portunus/io/InvalidationDirectoryOfPinLaw" = some m.cls := hown
  replace hml : c.maxLocals = 4 := hml
  have N0 := Fr.nil n0
  show Ends p.tables e below _ (s₁.setTop (mkF m 0 #[.val (.int (1 : Int32)), .val (.int x1), .val (.int x2), .val (.int x3)] []))
  refine own_iloadN X0 hx hby d5_0 rfl rfl ?_
  refine own_if_ne X0 hx hby d5_1 (pcY := 20) (pcN := 4) (by decide) rfl (fun (hc264 : ¬ (1 : Int32) = (0 : Int32)) => ?_) (fun (hc264 : (1 : Int32) = (0 : Int32)) => False.elim (by exact absurd hc264 (by decide)))
  refine own_iloadN X0 hx hby d5_20 rfl rfl ?_
  refine own_iconst X0 hx hby d5_21 rfl (1 : Int32) rfl ?_
  refine own_icmp_ne X0 hx hby d5_22 (pcY := 45) (pcN := 25) (by decide) rfl (fun (hc265 : ¬ (1 : Int32) = (1 : Int32)) => False.elim (by exact absurd hc265 (by decide))) (fun (hc265 : (1 : Int32) = (1 : Int32)) => ?_)
  refine own_new X0 hx hby hZ hown (hw _ tw_4) (hw _ tw_5) (hw _ tw_6) e0 (by decide) (by decide) d5_25 rfl (fun T266 h266 b266 X266 e266 g266 E266 A266 D266 => ?_)
  have ge_b266 : n0 ≤ b266 := own_ge O g266
  have sz_b266 : h0.size ≤ b266 := Nat.le_trans (Keep.refl h0 []).1 (Nat.le_of_eq g266.symm)
  have F266_value : Fld Z h266 b266 "java/lang/String" "value" "[B" .null := D266 (Or.inr (hw _ tw_20)) (ty := (.array .byte)) (by decide)
  have F266_coder : Fld Z h266 b266 "java/lang/String" "coder" "B" (.int (0 : Int32)) := D266 (Or.inr (hw _ tw_21)) (ty := .byte) (by decide)
  refine own_dup X266 hx hby d5_28 rfl rfl ?_
  refine own_iconst X266 hx hby d5_29 rfl (2 : Int32) rfl ?_
  have f268 := (O.ext E266)
  refine own_newarray X266 hx hby hZ (aty := .char) (hw _ tw_7) e266 (by decide) 2 (by decide) (by decide) (by decide) (by decide) .char rfl [(.int (0 : Int32)), (.int (0 : Int32))] rfl d5_30 rfl (fun T267 h267 b267 k267 X267 e267 g267 E267 V267 => ?_)
  have ge_b267 : n0 ≤ b267 := own_ge f268 g267
  have f269 := ((Keep.refl h0 []).ext E266)
  have sz_b267 : h0.size ≤ b267 := Nat.le_trans f269.1 (Nat.le_of_eq g267.symm)
  have ne_b266_b267 : b266 ≠ b267 := own_lt A266.lt g267
  refine own_dup X267 hx hby d5_32 rfl rfl ?_
  refine own_iconst X267 hx hby d5_33 rfl (0 : Int32) rfl ?_
  refine own_iloadN X267 hx hby d5_34 rfl rfl ?_
  refine own_castore X267 hx hby hZ x1 hn1 e267 V267 (by decide) 0 rfl (show 0 < 2 by decide) [(.int x1), (.int (0 : Int32))] rfl hf1 N0 ge_b267 d5_35 rfl (fun T270 h270 L270 X270 e270 W270 V270 N270 => ?_)
  refine own_dup X270 hx hby d5_36 rfl rfl ?_
  refine own_iconst X270 hx hby d5_37 rfl (1 : Int32) rfl ?_
  refine own_bipush X270 hx hby d5_38 rfl (47 : Int32) rfl ?_
  refine own_castore X270 hx hby hZ (47 : Int32) rfl e270 V270 (by decide) 1 rfl (show 1 < 2 by decide) [(.int x1), (.int (47 : Int32))] rfl rfl N270 ge_b267 d5_40 rfl (fun T271 h271 L271 X271 e271 W271 V271 N271 => ?_)
  have f273 := (((A266.ext E267).wr W270).wr W271)
  have f274 := (((F266_coder.ext E267).other W270 (Or.inl ne_b266_b267)).other W271 (Or.inl ne_b266_b267))
  have f275 := (((F266_value.ext E267).other W270 (Or.inl ne_b266_b267)).other W271 (Or.inl ne_b266_b267))
  have f276 := (((f268.ext E267).wr W270 ge_b267).wr W271 ge_b267)
  refine own_special X271 hx hby hZ (a := b266) (argsL := [(.ref b267)]) (rest := [(.ref b266)]) hown rfl (hw _ tw_8) (hw _ tw_9) (hw _ tw_6) (hw _ tw_10) (by decide) (rmi1_2 l Z a0 hw b266 b267 h271 n0 hks hfm CS FS ge_b266 f273 f274 f275 f276 hx1 (by decide) V271) e271 (by rw [hml]; rfl) pd_6 rfl (by decide) (W := 1) (Nat.le_refl _) (by decide) (by decide) (by decide) d5_41 rfl rfl (fun v272 T272 L272 X272 hQ272 => ?_)
  obtain ⟨b272, k272, rfl, N272q, K272, B272, D272, V272⟩ := hQ272
  show Ends p.tables e below _ (T272.setTop (mkF m 44 #[.val (.int (1 : Int32)), .val (.int x1), .val (.int x2), .val (.int x3)] [(.ref b266)]))
  refine own_ret X272 hx hby hret hlk d5_44 (.ref b266) rfl (Or.inr (Or.inr ⟨rfl, rfl, rfl⟩)) (by decide) (by decide) ?_
  have f277 := ((((f269.ext E267).wr W270 (Or.inr sz_b267)).wr W271 (Or.inr sz_b267)).trans K272 (allS (Or.inr sz_b266) all0))
  have f278 := (f273.keep K272)
  exact ⟨b266, b272, _, rfl, (Fr.app N271 N272q), f277, f278, B272, D272, V272⟩
set_option maxRecDepth 65536 in
set_option maxHeartbeats 40000000 in
theorem rmpl_2 (l : Launch) (Z : State) (a0 : Array Value) (hw : ∀ d ∈ tables_1, d.before a0 Z = true) (x1 : Int32) (x2 : Int32) (x3 : Int32) (h0 : Heap) (n0 : Nat) (O : Old Z n0 h0) {ks : Int32} {fm : Value} (hks : ¬ ks = 0) (hfm : fm.isRef = true) (CS : Sta Z Z.heap "java/lang/String" "COMPACT_STRINGS" "Z" (.int ks)) (FS : Sta Z Z.heap "jdk/internal/util/Preconditions" "SIOOBE_FORMATTER" "Ljava/util/function/BiFunction;" fm) (hn1 : nar .char x1 = x1) (hf1 : fits .char (.int x1) = true) (hx1 : x1.toInt ≤ 255) (hn2 : nar .char x2 = x2) (hf2 : fits .char (.int x2) = true) (hx2 : x2.toInt ≤ 255) (hn3 : nar .char x3 = x3) (hf3 : fits .char (.int x3) = true) (hx3 : x3.toInt ≤ 255) :
    OwnMet l Z (⟨"com/example/portunus/portunus/io/InvalidationDirectoryOfPinLaw", "plain", "(ICCC)Ljava/lang/String;"⟩ : MethodName) method_3_code 4 (some (.object "java/lang/String")) [] ({ frames := 4, cells := 3, slots := 8, locals := 66 } : Room) #[(.int (2 : Int32)), (.int x1), (.int x2), (.int x3)] h0 (fun v h L => ∃ a b k, v = some (.ref a) ∧ Fr n0 L ∧ Keep h0 h [] ∧ Exa Z h a "java/lang/String" ∧ Fld Z h a "java/lang/String" "coder" "B" (.int 0) ∧ Fld Z h a "java/lang/String" "value" "[B" (.ref b) ∧ Arv Z h b k .byte (2 : Int32) [(.int x1.toInt8.toInt32), (.int x2.toInt8.toInt32)] (.int 0)) := by
  refine own_body (plainFor_of_name pn_3) (fun m => ef_pl_2 m x1 x2 x3) ?_
  intro p e s m below meth c s₁ X0 hx hby hml hown hnm hret hlk hZ e0
  replace hown : s.vm.findClass "com/example/portunus/portunus/io/InvalidationDirectoryOfPinLaw" = some m.cls := hown
  replace hml : c.maxLocals = 4 := hml
  have N0 := Fr.nil n0
  show Ends p.tables e below _ (s₁.setTop (mkF m 0 #[.val (.int (2 : Int32)), .val (.int x1), .val (.int x2), .val (.int x3)] []))
  refine own_iloadN X0 hx hby d1_0 rfl rfl ?_
  refine own_if_ne X0 hx hby d1_1 (pcY := 15) (pcN := 4) (by decide) rfl (fun (hc279 : ¬ (2 : Int32) = (0 : Int32)) => ?_) (fun (hc279 : (2 : Int32) = (0 : Int32)) => False.elim (by exact absurd hc279 (by decide)))
  refine own_iloadN X0 hx hby d1_15 rfl rfl ?_
  refine own_iconst X0 hx hby d1_16 rfl (1 : Int32) rfl ?_
  refine own_icmp_ne X0 hx hby d1_17 (pcY := 35) (pcN := 20) (by decide) rfl (fun (hc280 : ¬ (2 : Int32) = (1 : Int32)) => ?_) (fun (hc280 : (2 : Int32) = (1 : Int32)) => False.elim (by exact absurd hc280 (by decide)))
  refine own_iloadN X0 hx hby d1_35 rfl rfl ?_
  refine own_iconst X0 hx hby d1_36 rfl (2 : Int32) rfl ?_
  refine own_icmp_ne X0 hx hby d1_37 (pcY := 59) (pcN := 40) (by decide) rfl (fun (hc281 : ¬ (2 : Int32) = (2 : Int32)) => False.elim (by exact absurd hc281 (by decide))) (fun (hc281 : (2 : Int32) = (2 : Int32)) => ?_)
  refine own_new X0 hx hby hZ hown (hw _ tw_4) (hw _ tw_5) (hw _ tw_6) e0 (by decide) (by decide) d1_40 rfl (fun T282 h282 b282 X282 e282 g282 E282 A282 D282 => ?_)
  have ge_b282 : n0 ≤ b282 := own_ge O g282
  have sz_b282 : h0.size ≤ b282 := Nat.le_trans (Keep.refl h0 []).1 (Nat.le_of_eq g282.symm)
  have F282_value : Fld Z h282 b282 "java/lang/String" "value" "[B" .null := D282 (Or.inr (hw _ tw_20)) (ty := (.array .byte)) (by decide)
  have F282_coder : Fld Z h282 b282 "java/lang/String" "coder" "B" (.int (0 : Int32)) := D282 (Or.inr (hw _ tw_21)) (ty := .byte) (by decide)
  refine own_dup X282 hx hby d1_43 rfl rfl ?_
  refine own_iconst X282 hx hby d1_44 rfl (2 : Int32) rfl ?_
  have f284 := (O.ext E282)
  refine own_newarray X282 hx hby hZ (aty := .char) (hw _ tw_7) e282 (by decide) 2 (by decide) (by decide) (by decide) (by decide) .char rfl [(.int (0 : Int32)), (.int (0 : Int32))] rfl d1_45 rfl (fun T283 h283 b283 k283 X283 e283 g283 E283 V283 => ?_)
  have ge_b283 : n0 ≤ b283 := own_ge f284 g283
  have f285 := ((Keep.refl h0 []).ext E282)
  have sz_b283 : h0.size ≤ b283 := Nat.le_trans f285.1 (Nat.le_of_eq g283.symm)
  have ne_b282_b283 : b282 ≠ b283 := own_lt A282.lt g283
  refine own_dup X283 hx hby d1_47 rfl rfl ?_
  refine own_iconst X283 hx hby d1_48 rfl (0 : Int32) rfl ?_
  refine own_iloadN X283 hx hby d1_49 rfl rfl ?_
  refine own_castore X283 hx hby hZ x1 hn1 e283 V283 (by decide) 0 rfl (show 0 < 2 by decide) [(.int x1), (.int (0 : Int32))] rfl hf1 N0 ge_b283 d1_50 rfl (fun T286 h286 L286 X286 e286 W286 V286 N286 => ?_)
  refine own_dup X286 hx hby d1_51 rfl rfl ?_
  refine own_iconst X286 hx hby d1_52 rfl (1 : Int32) rfl ?_
  refine own_iloadN X286 hx hby d1_53 rfl rfl ?_
  refine own_castore X286 hx hby hZ x2 hn2 e286 V286 (by decide) 1 rfl (show 1 < 2 by decide) [(.int x1), (.int x2)] rfl hf2 N286 ge_b283 d1_54 rfl (fun T287 h287 L287 X287 e287 W287 V287 N287 => ?_)
  have f289 := (((A282.ext E283).wr W286).wr W287)
  have f290 := (((F282_coder.ext E283).other W286 (Or.inl ne_b282_b283)).other W287 (Or.inl ne_b282_b283))
  have f291 := (((F282_value.ext E283).other W286 (Or.inl ne_b282_b283)).other W287 (Or.inl ne_b282_b283))
  have f292 := (((f284.ext E283).wr W286 ge_b283).wr W287 ge_b283)
  refine own_special X287 hx hby hZ (a := b282) (argsL := [(.ref b283)]) (rest := [(.ref b282)]) hown rfl (hw _ tw_8) (hw _ tw_9) (hw _ tw_6) (hw _ tw_10) (by decide) (rmi1_2 l Z a0 hw b282 b283 h287 n0 hks hfm CS FS ge_b282 f289 f290 f291 f292 hx1 hx2 V287) e287 (by rw [hml]; rfl) pd_6 rfl (by decide) (W := 1) (Nat.le_refl _) (by decide) (by decide) (by decide) d1_55 rfl rfl (fun v288 T288 L288 X288 hQ288 => ?_)
  obtain ⟨b288, k288, rfl, N288q, K288, B288, D288, V288⟩ := hQ288
  show Ends p.tables e below _ (T288.setTop (mkF m 58 #[.val (.int (2 : Int32)), .val (.int x1), .val (.int x2), .val (.int x3)] [(.ref b282)]))
  refine own_ret X288 hx hby hret hlk d1_58 (.ref b282) rfl (Or.inr (Or.inr ⟨rfl, rfl, rfl⟩)) (by decide) (by decide) ?_
  have f293 := ((((f285.ext E283).wr W286 (Or.inr sz_b283)).wr W287 (Or.inr sz_b283)).trans K288 (allS (Or.inr sz_b282) all0))
  have f294 := (f289.keep K288)
  exact ⟨b282, b288, _, rfl, (Fr.app N287 N288q), f293, f294, B288, D288, V288⟩
set_option maxRecDepth 65536 in
set_option maxHeartbeats 40000000 in
theorem rmws_2 (l : Launch) (Z : State) (a0 : Array Value) (hw : ∀ d ∈ tables_1, d.before a0 Z = true) (x1 : Int32) (x2 : Int32) (x3 : Int32) (h0 : Heap) (n0 : Nat) (O : Old Z n0 h0) {ks : Int32} {fm : Value} (hks : ¬ ks = 0) (hfm : fm.isRef = true) (CS : Sta Z Z.heap "java/lang/String" "COMPACT_STRINGS" "Z" (.int ks)) (FS : Sta Z Z.heap "jdk/internal/util/Preconditions" "SIOOBE_FORMATTER" "Ljava/util/function/BiFunction;" fm) (hn1 : nar .char x1 = x1) (hf1 : fits .char (.int x1) = true) (hx1 : x1.toInt ≤ 255) (hn2 : nar .char x2 = x2) (hf2 : fits .char (.int x2) = true) (hx2 : x2.toInt ≤ 255) (hn3 : nar .char x3 = x3) (hf3 : fits .char (.int x3) = true) (hx3 : x3.toInt ≤ 255) :
    OwnMet l Z (⟨"com/example/portunus/portunus/io/InvalidationDirectoryOfPinLaw", "withSlash", "(ICCC)Ljava/lang/String;"⟩ : MethodName) method_4_code 4 (some (.object "java/lang/String")) [] ({ frames := 4, cells := 3, slots := 10, locals := 66 } : Room) #[(.int (2 : Int32)), (.int x1), (.int x2), (.int x3)] h0 (fun v h L => ∃ a b k, v = some (.ref a) ∧ Fr n0 L ∧ Keep h0 h [] ∧ Exa Z h a "java/lang/String" ∧ Fld Z h a "java/lang/String" "coder" "B" (.int 0) ∧ Fld Z h a "java/lang/String" "value" "[B" (.ref b) ∧ Arv Z h b k .byte (3 : Int32) [(.int x1.toInt8.toInt32), (.int x2.toInt8.toInt32), (.int (47 : Int32).toInt8.toInt32)] (.int 0)) := by
  refine own_body (plainFor_of_name pn_3) (fun m => ef_ws_2 m x1 x2 x3) ?_
  intro p e s m below meth c s₁ X0 hx hby hml hown hnm hret hlk hZ e0
  replace hown : s.vm.findClass "com/example/portunus/portunus/io/InvalidationDirectoryOfPinLaw" = some m.cls := hown
  replace hml : c.maxLocals = 4 := hml
  have N0 := Fr.nil n0
  show Ends p.tables e below _ (s₁.setTop (mkF m 0 #[.val (.int (2 : Int32)), .val (.int x1), .val (.int x2), .val (.int x3)] []))
  refine own_iloadN X0 hx hby d5_0 rfl rfl ?_
  refine own_if_ne X0 hx hby d5_1 (pcY := 20) (pcN := 4) (by decide) rfl (fun (hc295 : ¬ (2 : Int32) = (0 : Int32)) => ?_) (fun (hc295 : (2 : Int32) = (0 : Int32)) => False.elim (by exact absurd hc295 (by decide)))
  refine own_iloadN X0 hx hby d5_20 rfl rfl ?_
  refine own_iconst X0 hx hby d5_21 rfl (1 : Int32) rfl ?_
  refine own_icmp_ne X0 hx hby d5_22 (pcY := 45) (pcN := 25) (by decide) rfl (fun (hc296 : ¬ (2 : Int32) = (1 : Int32)) => ?_) (fun (hc296 : (2 : Int32) = (1 : Int32)) => False.elim (by exact absurd hc296 (by decide)))
  refine own_iloadN X0 hx hby d5_45 rfl rfl ?_
  refine own_iconst X0 hx hby d5_46 rfl (2 : Int32) rfl ?_
  refine own_icmp_ne X0 hx hby d5_47 (pcY := 74) (pcN := 50) (by decide) rfl (fun (hc297 : ¬ (2 : Int32) = (2 : Int32)) => False.elim (by exact absurd hc297 (by decide))) (fun (hc297 : (2 : Int32) = (2 : Int32)) => ?_)
  refine own_new X0 hx hby hZ hown (hw _ tw_4) (hw _ tw_5) (hw _ tw_6) e0 (by decide) (by decide) d5_50 rfl (fun T298 h298 b298 X298 e298 g298 E298 A298 D298 => ?_)
  have ge_b298 : n0 ≤ b298 := own_ge O g298
  have sz_b298 : h0.size ≤ b298 := Nat.le_trans (Keep.refl h0 []).1 (Nat.le_of_eq g298.symm)
  have F298_value : Fld Z h298 b298 "java/lang/String" "value" "[B" .null := D298 (Or.inr (hw _ tw_20)) (ty := (.array .byte)) (by decide)
  have F298_coder : Fld Z h298 b298 "java/lang/String" "coder" "B" (.int (0 : Int32)) := D298 (Or.inr (hw _ tw_21)) (ty := .byte) (by decide)
  refine own_dup X298 hx hby d5_53 rfl rfl ?_
  refine own_iconst X298 hx hby d5_54 rfl (3 : Int32) rfl ?_
  have f300 := (O.ext E298)
  refine own_newarray X298 hx hby hZ (aty := .char) (hw _ tw_7) e298 (by decide) 3 (by decide) (by decide) (by decide) (by decide) .char rfl [(.int (0 : Int32)), (.int (0 : Int32)), (.int (0 : Int32))] rfl d5_55 rfl (fun T299 h299 b299 k299 X299 e299 g299 E299 V299 => ?_)
  have ge_b299 : n0 ≤ b299 := own_ge f300 g299
  have f301 := ((Keep.refl h0 []).ext E298)
  have sz_b299 : h0.size ≤ b299 := Nat.le_trans f301.1 (Nat.le_of_eq g299.symm)
  have ne_b298_b299 : b298 ≠ b299 := own_lt A298.lt g299
  refine own_dup X299 hx hby d5_57 rfl rfl ?_
  refine own_iconst X299 hx hby d5_58 rfl (0 : Int32) rfl ?_
  refine own_iloadN X299 hx hby d5_59 rfl rfl ?_
  refine own_castore X299 hx hby hZ x1 hn1 e299 V299 (by decide) 0 rfl (show 0 < 3 by decide) [(.int x1), (.int (0 : Int32)), (.int (0 : Int32))] rfl hf1 N0 ge_b299 d5_60 rfl (fun T302 h302 L302 X302 e302 W302 V302 N302 => ?_)
  refine own_dup X302 hx hby d5_61 rfl rfl ?_
  refine own_iconst X302 hx hby d5_62 rfl (1 : Int32) rfl ?_
  refine own_iloadN X302 hx hby d5_63 rfl rfl ?_
  refine own_castore X302 hx hby hZ x2 hn2 e302 V302 (by decide) 1 rfl (show 1 < 3 by decide) [(.int x1), (.int x2), (.int (0 : Int32))] rfl hf2 N302 ge_b299 d5_64 rfl (fun T303 h303 L303 X303 e303 W303 V303 N303 => ?_)
  refine own_dup X303 hx hby d5_65 rfl rfl ?_
  refine own_iconst X303 hx hby d5_66 rfl (2 : Int32) rfl ?_
  refine own_bipush X303 hx hby d5_67 rfl (47 : Int32) rfl ?_
  refine own_castore X303 hx hby hZ (47 : Int32) rfl e303 V303 (by decide) 2 rfl (show 2 < 3 by decide) [(.int x1), (.int x2), (.int (47 : Int32))] rfl rfl N303 ge_b299 d5_69 rfl (fun T304 h304 L304 X304 e304 W304 V304 N304 => ?_)
  have f306 := ((((A298.ext E299).wr W302).wr W303).wr W304)
  have f307 := ((((F298_coder.ext E299).other W302 (Or.inl ne_b298_b299)).other W303 (Or.inl ne_b298_b299)).other W304 (Or.inl ne_b298_b299))
  have f308 := ((((F298_value.ext E299).other W302 (Or.inl ne_b298_b299)).other W303 (Or.inl ne_b298_b299)).other W304 (Or.inl ne_b298_b299))
  have f309 := ((((f300.ext E299).wr W302 ge_b299).wr W303 ge_b299).wr W304 ge_b299)
  refine own_special X304 hx hby hZ (a := b298) (argsL := [(.ref b299)]) (rest := [(.ref b298)]) hown rfl (hw _ tw_8) (hw _ tw_9) (hw _ tw_6) (hw _ tw_10) (by decide) (rmi1_3 l Z a0 hw b298 b299 h304 n0 hks hfm CS FS ge_b298 f306 f307 f308 f309 hx1 hx2 (by decide) V304) e304 (by rw [hml]; rfl) pd_6 rfl (by decide) (W := 1) (Nat.le_refl _) (by decide) (by decide) (by decide) d5_70 rfl rfl (fun v305 T305 L305 X305 hQ305 => ?_)
  obtain ⟨b305, k305, rfl, N305q, K305, B305, D305, V305⟩ := hQ305
  show Ends p.tables e below _ (T305.setTop (mkF m 73 #[.val (.int (2 : Int32)), .val (.int x1), .val (.int x2), .val (.int x3)] [(.ref b298)]))
  refine own_ret X305 hx hby hret hlk d5_73 (.ref b298) rfl (Or.inr (Or.inr ⟨rfl, rfl, rfl⟩)) (by decide) (by decide) ?_
  have f310 := (((((f301.ext E299).wr W302 (Or.inr sz_b299)).wr W303 (Or.inr sz_b299)).wr W304 (Or.inr sz_b299)).trans K305 (allS (Or.inr sz_b298) all0))
  have f311 := (f306.keep K305)
  exact ⟨b298, b305, _, rfl, (Fr.app N304 N305q), f310, f311, B305, D305, V305⟩
set_option maxRecDepth 65536 in
set_option maxHeartbeats 40000000 in
theorem rmpl_3 (l : Launch) (Z : State) (a0 : Array Value) (hw : ∀ d ∈ tables_1, d.before a0 Z = true) (x1 : Int32) (x2 : Int32) (x3 : Int32) (h0 : Heap) (n0 : Nat) (O : Old Z n0 h0) {ks : Int32} {fm : Value} (hks : ¬ ks = 0) (hfm : fm.isRef = true) (CS : Sta Z Z.heap "java/lang/String" "COMPACT_STRINGS" "Z" (.int ks)) (FS : Sta Z Z.heap "jdk/internal/util/Preconditions" "SIOOBE_FORMATTER" "Ljava/util/function/BiFunction;" fm) (hn1 : nar .char x1 = x1) (hf1 : fits .char (.int x1) = true) (hx1 : x1.toInt ≤ 255) (hn2 : nar .char x2 = x2) (hf2 : fits .char (.int x2) = true) (hx2 : x2.toInt ≤ 255) (hn3 : nar .char x3 = x3) (hf3 : fits .char (.int x3) = true) (hx3 : x3.toInt ≤ 255) :
    OwnMet l Z (⟨"com/example/portunus/portunus/io/InvalidationDirectoryOfPinLaw", "plain", "(ICCC)Ljava/lang/String;"⟩ : MethodName) method_3_code 4 (some (.object "java/lang/String")) [] ({ frames := 4, cells := 3, slots := 10, locals := 66 } : Room) #[(.int (3 : Int32)), (.int x1), (.int x2), (.int x3)] h0 (fun v h L => ∃ a b k, v = some (.ref a) ∧ Fr n0 L ∧ Keep h0 h [] ∧ Exa Z h a "java/lang/String" ∧ Fld Z h a "java/lang/String" "coder" "B" (.int 0) ∧ Fld Z h a "java/lang/String" "value" "[B" (.ref b) ∧ Arv Z h b k .byte (3 : Int32) [(.int x1.toInt8.toInt32), (.int x2.toInt8.toInt32), (.int x3.toInt8.toInt32)] (.int 0)) := by
  refine own_body (plainFor_of_name pn_3) (fun m => ef_pl_3 m x1 x2 x3) ?_
  intro p e s m below meth c s₁ X0 hx hby hml hown hnm hret hlk hZ e0
  replace hown : s.vm.findClass "com/example/portunus/portunus/io/InvalidationDirectoryOfPinLaw" = some m.cls := hown
  replace hml : c.maxLocals = 4 := hml
  have N0 := Fr.nil n0
  show Ends p.tables e below _ (s₁.setTop (mkF m 0 #[.val (.int (3 : Int32)), .val (.int x1), .val (.int x2), .val (.int x3)] []))
  refine own_iloadN X0 hx hby d1_0 rfl rfl ?_
  refine own_if_ne X0 hx hby d1_1 (pcY := 15) (pcN := 4) (by decide) rfl (fun (hc312 : ¬ (3 : Int32) = (0 : Int32)) => ?_) (fun (hc312 : (3 : Int32) = (0 : Int32)) => False.elim (by exact absurd hc312 (by decide)))
  refine own_iloadN X0 hx hby d1_15 rfl rfl ?_
  refine own_iconst X0 hx hby d1_16 rfl (1 : Int32) rfl ?_
  refine own_icmp_ne X0 hx hby d1_17 (pcY := 35) (pcN := 20) (by decide) rfl (fun (hc313 : ¬ (3 : Int32) = (1 : Int32)) => ?_) (fun (hc313 : (3 : Int32) = (1 : Int32)) => False.elim (by exact absurd hc313 (by decide)))
  refine own_iloadN X0 hx hby d1_35 rfl rfl ?_
  refine own_iconst X0 hx hby d1_36 rfl (2 : Int32) rfl ?_
  refine own_icmp_ne X0 hx hby d1_37 (pcY := 59) (pcN := 40) (by decide) rfl (fun (hc314 : ¬ (3 : Int32) = (2 : Int32)) => ?_) (fun (hc314 : (3 : Int32) = (2 : Int32)) => False.elim (by exact absurd hc314 (by decide)))
  refine own_new X0 hx hby hZ hown (hw _ tw_4) (hw _ tw_5) (hw _ tw_6) e0 (by decide) (by decide) d1_59 rfl (fun T315 h315 b315 X315 e315 g315 E315 A315 D315 => ?_)
  have ge_b315 : n0 ≤ b315 := own_ge O g315
  have sz_b315 : h0.size ≤ b315 := Nat.le_trans (Keep.refl h0 []).1 (Nat.le_of_eq g315.symm)
  have F315_value : Fld Z h315 b315 "java/lang/String" "value" "[B" .null := D315 (Or.inr (hw _ tw_20)) (ty := (.array .byte)) (by decide)
  have F315_coder : Fld Z h315 b315 "java/lang/String" "coder" "B" (.int (0 : Int32)) := D315 (Or.inr (hw _ tw_21)) (ty := .byte) (by decide)
  refine own_dup X315 hx hby d1_62 rfl rfl ?_
  refine own_iconst X315 hx hby d1_63 rfl (3 : Int32) rfl ?_
  have f317 := (O.ext E315)
  refine own_newarray X315 hx hby hZ (aty := .char) (hw _ tw_7) e315 (by decide) 3 (by decide) (by decide) (by decide) (by decide) .char rfl [(.int (0 : Int32)), (.int (0 : Int32)), (.int (0 : Int32))] rfl d1_64 rfl (fun T316 h316 b316 k316 X316 e316 g316 E316 V316 => ?_)
  have ge_b316 : n0 ≤ b316 := own_ge f317 g316
  have f318 := ((Keep.refl h0 []).ext E315)
  have sz_b316 : h0.size ≤ b316 := Nat.le_trans f318.1 (Nat.le_of_eq g316.symm)
  have ne_b315_b316 : b315 ≠ b316 := own_lt A315.lt g316
  refine own_dup X316 hx hby d1_66 rfl rfl ?_
  refine own_iconst X316 hx hby d1_67 rfl (0 : Int32) rfl ?_
  refine own_iloadN X316 hx hby d1_68 rfl rfl ?_
  refine own_castore X316 hx hby hZ x1 hn1 e316 V316 (by decide) 0 rfl (show 0 < 3 by decide) [(.int x1), (.int (0 : Int32)), (.int (0 : Int32))] rfl hf1 N0 ge_b316 d1_69 rfl (fun T319 h319 L319 X319 e319 W319 V319 N319 => ?_)
  refine own_dup X319 hx hby d1_70 rfl rfl ?_
  refine own_iconst X319 hx hby d1_71 rfl (1 : Int32) rfl ?_
  refine own_iloadN X319 hx hby d1_72 rfl rfl ?_
  refine own_castore X319 hx hby hZ x2 hn2 e319 V319 (by decide) 1 rfl (show 1 < 3 by decide) [(.int x1), (.int x2), (.int (0 : Int32))] rfl hf2 N319 ge_b316 d1_73 rfl (fun T320 h320 L320 X320 e320 W320 V320 N320 => ?_)
  refine own_dup X320 hx hby d1_74 rfl rfl ?_
  refine own_iconst X320 hx hby d1_75 rfl (2 : Int32) rfl ?_
  refine own_iloadN X320 hx hby d1_76 rfl rfl ?_
  refine own_castore X320 hx hby hZ x3 hn3 e320 V320 (by decide) 2 rfl (show 2 < 3 by decide) [(.int x1), (.int x2), (.int x3)] rfl hf3 N320 ge_b316 d1_77 rfl (fun T321 h321 L321 X321 e321 W321 V321 N321 => ?_)
  have f323 := ((((A315.ext E316).wr W319).wr W320).wr W321)
  have f324 := ((((F315_coder.ext E316).other W319 (Or.inl ne_b315_b316)).other W320 (Or.inl ne_b315_b316)).other W321 (Or.inl ne_b315_b316))
  have f325 := ((((F315_value.ext E316).other W319 (Or.inl ne_b315_b316)).other W320 (Or.inl ne_b315_b316)).other W321 (Or.inl ne_b315_b316))
  have f326 := ((((f317.ext E316).wr W319 ge_b316).wr W320 ge_b316).wr W321 ge_b316)
  refine own_special X321 hx hby hZ (a := b315) (argsL := [(.ref b316)]) (rest := [(.ref b315)]) hown rfl (hw _ tw_8) (hw _ tw_9) (hw _ tw_6) (hw _ tw_10) (by decide) (rmi1_3 l Z a0 hw b315 b316 h321 n0 hks hfm CS FS ge_b315 f323 f324 f325 f326 hx1 hx2 hx3 V321) e321 (by rw [hml]; rfl) pd_6 rfl (by decide) (W := 1) (Nat.le_refl _) (by decide) (by decide) (by decide) d1_78 rfl rfl (fun v322 T322 L322 X322 hQ322 => ?_)
  obtain ⟨b322, k322, rfl, N322q, K322, B322, D322, V322⟩ := hQ322
  show Ends p.tables e below _ (T322.setTop (mkF m 81 #[.val (.int (3 : Int32)), .val (.int x1), .val (.int x2), .val (.int x3)] [(.ref b315)]))
  refine own_ret X322 hx hby hret hlk d1_81 (.ref b315) rfl (Or.inr (Or.inr ⟨rfl, rfl, rfl⟩)) (by decide) (by decide) ?_
  have f327 := (((((f318.ext E316).wr W319 (Or.inr sz_b316)).wr W320 (Or.inr sz_b316)).wr W321 (Or.inr sz_b316)).trans K322 (allS (Or.inr sz_b315) all0))
  have f328 := (f323.keep K322)
  exact ⟨b315, b322, _, rfl, (Fr.app N321 N322q), f327, f328, B322, D322, V322⟩
set_option maxRecDepth 65536 in
set_option maxHeartbeats 40000000 in
theorem rmws_3 (l : Launch) (Z : State) (a0 : Array Value) (hw : ∀ d ∈ tables_1, d.before a0 Z = true) (x1 : Int32) (x2 : Int32) (x3 : Int32) (h0 : Heap) (n0 : Nat) (O : Old Z n0 h0) {ks : Int32} {fm : Value} (hks : ¬ ks = 0) (hfm : fm.isRef = true) (CS : Sta Z Z.heap "java/lang/String" "COMPACT_STRINGS" "Z" (.int ks)) (FS : Sta Z Z.heap "jdk/internal/util/Preconditions" "SIOOBE_FORMATTER" "Ljava/util/function/BiFunction;" fm) (hn1 : nar .char x1 = x1) (hf1 : fits .char (.int x1) = true) (hx1 : x1.toInt ≤ 255) (hn2 : nar .char x2 = x2) (hf2 : fits .char (.int x2) = true) (hx2 : x2.toInt ≤ 255) (hn3 : nar .char x3 = x3) (hf3 : fits .char (.int x3) = true) (hx3 : x3.toInt ≤ 255) :
    OwnMet l Z (⟨"com/example/portunus/portunus/io/InvalidationDirectoryOfPinLaw", "withSlash", "(ICCC)Ljava/lang/String;"⟩ : MethodName) method_4_code 4 (some (.object "java/lang/String")) [] ({ frames := 4, cells := 3, slots := 12, locals := 66 } : Room) #[(.int (3 : Int32)), (.int x1), (.int x2), (.int x3)] h0 (fun v h L => ∃ a b k, v = some (.ref a) ∧ Fr n0 L ∧ Keep h0 h [] ∧ Exa Z h a "java/lang/String" ∧ Fld Z h a "java/lang/String" "coder" "B" (.int 0) ∧ Fld Z h a "java/lang/String" "value" "[B" (.ref b) ∧ Arv Z h b k .byte (4 : Int32) [(.int x1.toInt8.toInt32), (.int x2.toInt8.toInt32), (.int x3.toInt8.toInt32), (.int (47 : Int32).toInt8.toInt32)] (.int 0)) := by
  refine own_body (plainFor_of_name pn_3) (fun m => ef_ws_3 m x1 x2 x3) ?_
  intro p e s m below meth c s₁ X0 hx hby hml hown hnm hret hlk hZ e0
  replace hown : s.vm.findClass "com/example/portunus/portunus/io/InvalidationDirectoryOfPinLaw" = some m.cls := hown
  replace hml : c.maxLocals = 4 := hml
  have N0 := Fr.nil n0
  show Ends p.tables e below _ (s₁.setTop (mkF m 0 #[.val (.int (3 : Int32)), .val (.int x1), .val (.int x2), .val (.int x3)] []))
  refine own_iloadN X0 hx hby d5_0 rfl rfl ?_
  refine own_if_ne X0 hx hby d5_1 (pcY := 20) (pcN := 4) (by decide) rfl (fun (hc329 : ¬ (3 : Int32) = (0 : Int32)) => ?_) (fun (hc329 : (3 : Int32) = (0 : Int32)) => False.elim (by exact absurd hc329 (by decide)))
  refine own_iloadN X0 hx hby d5_20 rfl rfl ?_
  refine own_iconst X0 hx hby d5_21 rfl (1 : Int32) rfl ?_
  refine own_icmp_ne X0 hx hby d5_22 (pcY := 45) (pcN := 25) (by decide) rfl (fun (hc330 : ¬ (3 : Int32) = (1 : Int32)) => ?_) (fun (hc330 : (3 : Int32) = (1 : Int32)) => False.elim (by exact absurd hc330 (by decide)))
  refine own_iloadN X0 hx hby d5_45 rfl rfl ?_
  refine own_iconst X0 hx hby d5_46 rfl (2 : Int32) rfl ?_
  refine own_icmp_ne X0 hx hby d5_47 (pcY := 74) (pcN := 50) (by decide) rfl (fun (hc331 : ¬ (3 : Int32) = (2 : Int32)) => ?_) (fun (hc331 : (3 : Int32) = (2 : Int32)) => False.elim (by exact absurd hc331 (by decide)))
  refine own_new X0 hx hby hZ hown (hw _ tw_4) (hw _ tw_5) (hw _ tw_6) e0 (by decide) (by decide) d5_74 rfl (fun T332 h332 b332 X332 e332 g332 E332 A332 D332 => ?_)
  have ge_b332 : n0 ≤ b332 := own_ge O g332
  have sz_b332 : h0.size ≤ b332 := Nat.le_trans (Keep.refl h0 []).1 (Nat.le_of_eq g332.symm)
  have F332_value : Fld Z h332 b332 "java/lang/String" "value" "[B" .null := D332 (Or.inr (hw _ tw_20)) (ty := (.array .byte)) (by decide)
  have F332_coder : Fld Z h332 b332 "java/lang/String" "coder" "B" (.int (0 : Int32)) := D332 (Or.inr (hw _ tw_21)) (ty := .byte) (by decide)
  refine own_dup X332 hx hby d5_77 rfl rfl ?_
  refine own_iconst X332 hx hby d5_78 rfl (4 : Int32) rfl ?_
  have f334 := (O.ext E332)
  refine own_newarray X332 hx hby hZ (aty := .char) (hw _ tw_7) e332 (by decide) 4 (by decide) (by decide) (by decide) (by decide) .char rfl [(.int (0 : Int32)), (.int (0 : Int32)), (.int (0 : Int32)), (.int (0 : Int32))] rfl d5_79 rfl (fun T333 h333 b333 k333 X333 e333 g333 E333 V333 => ?_)
  have ge_b333 : n0 ≤ b333 := own_ge f334 g333
  have f335 := ((Keep.refl h0 []).ext E332)
  have sz_b333 : h0.size ≤ b333 := Nat.le_trans f335.1 (Nat.le_of_eq g333.symm)
  have ne_b332_b333 : b332 ≠ b333 := own_lt A332.lt g333
  refine own_dup X333 hx hby d5_81 rfl rfl ?_
  refine own_iconst X333 hx hby d5_82 rfl (0 : Int32) rfl ?_
  refine own_iloadN X333 hx hby d5_83 rfl rfl ?_
  refine own_castore X333 hx hby hZ x1 hn1 e333 V333 (by decide) 0 rfl (show 0 < 4 by decide) [(.int x1), (.int (0 : Int32)), (.int (0 : Int32)), (.int (0 : Int32))] rfl hf1 N0 ge_b333 d5_84 rfl (fun T336 h336 L336 X336 e336 W336 V336 N336 => ?_)
  refine own_dup X336 hx hby d5_85 rfl rfl ?_
  refine own_iconst X336 hx hby d5_86 rfl (1 : Int32) rfl ?_
  refine own_iloadN X336 hx hby d5_87 rfl rfl ?_
  refine own_castore X336 hx hby hZ x2 hn2 e336 V336 (by decide) 1 rfl (show 1 < 4 by decide) [(.int x1), (.int x2), (.int (0 : Int32)), (.int (0 : Int32))] rfl hf2 N336 ge_b333 d5_88 rfl (fun T337 h337 L337 X337 e337 W337 V337 N337 => ?_)
  refine own_dup X337 hx hby d5_89 rfl rfl ?_
  refine own_iconst X337 hx hby d5_90 rfl (2 : Int32) rfl ?_
  refine own_iloadN X337 hx hby d5_91 rfl rfl ?_
  refine own_castore X337 hx hby hZ x3 hn3 e337 V337 (by decide) 2 rfl (show 2 < 4 by decide) [(.int x1), (.int x2), (.int x3), (.int (0 : Int32))] rfl hf3 N337 ge_b333 d5_92 rfl (fun T338 h338 L338 X338 e338 W338 V338 N338 => ?_)
  refine own_dup X338 hx hby d5_93 rfl rfl ?_
  refine own_iconst X338 hx hby d5_94 rfl (3 : Int32) rfl ?_
  refine own_bipush X338 hx hby d5_95 rfl (47 : Int32) rfl ?_
  refine own_castore X338 hx hby hZ (47 : Int32) rfl e338 V338 (by decide) 3 rfl (show 3 < 4 by decide) [(.int x1), (.int x2), (.int x3), (.int (47 : Int32))] rfl rfl N338 ge_b333 d5_97 rfl (fun T339 h339 L339 X339 e339 W339 V339 N339 => ?_)
  have f341 := (((((A332.ext E333).wr W336).wr W337).wr W338).wr W339)
  have f342 := (((((F332_coder.ext E333).other W336 (Or.inl ne_b332_b333)).other W337 (Or.inl ne_b332_b333)).other W338 (Or.inl ne_b332_b333)).other W339 (Or.inl ne_b332_b333))
  have f343 := (((((F332_value.ext E333).other W336 (Or.inl ne_b332_b333)).other W337 (Or.inl ne_b332_b333)).other W338 (Or.inl ne_b332_b333)).other W339 (Or.inl ne_b332_b333))
  have f344 := (((((f334.ext E333).wr W336 ge_b333).wr W337 ge_b333).wr W338 ge_b333).wr W339 ge_b333)
  refine own_special X339 hx hby hZ (a := b332) (argsL := [(.ref b333)]) (rest := [(.ref b332)]) hown rfl (hw _ tw_8) (hw _ tw_9) (hw _ tw_6) (hw _ tw_10) (by decide) (rmi1_4 l Z a0 hw b332 b333 h339 n0 hks hfm CS FS ge_b332 f341 f342 f343 f344 hx1 hx2 hx3 (by decide) V339) e339 (by rw [hml]; rfl) pd_6 rfl (by decide) (W := 1) (Nat.le_refl _) (by decide) (by decide) (by decide) d5_98 rfl rfl (fun v340 T340 L340 X340 hQ340 => ?_)
  obtain ⟨b340, k340, rfl, N340q, K340, B340, D340, V340⟩ := hQ340
  show Ends p.tables e below _ (T340.setTop (mkF m 101 #[.val (.int (3 : Int32)), .val (.int x1), .val (.int x2), .val (.int x3)] [(.ref b332)]))
  refine own_ret X340 hx hby hret hlk d5_101 (.ref b332) rfl (Or.inr (Or.inr ⟨rfl, rfl, rfl⟩)) (by decide) (by decide) ?_
  have f345 := ((((((f335.ext E333).wr W336 (Or.inr sz_b333)).wr W337 (Or.inr sz_b333)).wr W338 (Or.inr sz_b333)).wr W339 (Or.inr sz_b333)).trans K340 (allS (Or.inr sz_b332) all0))
  have f346 := (f341.keep K340)
  exact ⟨b332, b340, _, rfl, (Fr.app N339 N340q), f345, f346, B340, D340, V340⟩
set_option maxRecDepth 65536 in
set_option maxHeartbeats 40000000 in
theorem rmcl_1 (l : Launch) (Z : State) (a0 : Array Value) (hw : ∀ d ∈ tables_1, d.before a0 Z = true)  (h0 : Heap) :
    OwnMet l Z (⟨"java/util/Arrays", "checkLength", "(II)V"⟩ : MethodName) jdk_65_method_131_code 2 none [] ({ frames := 0, cells := 0, slots := 0, locals := 0 } : Room) #[(.int (0 : Int32)), (.int (1 : Int32))] h0 (fun v h L => v = none ∧ L = [] ∧ h = h0) := by
  refine own_body (plainFor_of_name pn_4) (fun m => ef_cl_1 m ) ?_
  intro p e s m below meth c s₁ X0 hx hby hml hown hnm hret hlk hZ e0
  replace hown : s.vm.findClass "java/util/Arrays" = some m.cls := hown
  replace hml : c.maxLocals = 2 := hml
  show Ends p.tables e below _ (s₁.setTop (mkF m 0 #[.val (.int (0 : Int32)), .val (.int (1 : Int32))] []))
  refine own_iloadN X0 hx hby d21_0 rfl rfl ?_
  refine own_iloadN X0 hx hby d21_1 rfl rfl ?_
  refine own_icmp_ge X0 hx hby d21_2 (pcY := 37) (pcN := 5) (by decide) rfl (fun (hc347 : 0 ≤ 1) => ?_) (fun (hc347 : 1 < 0) => False.elim (by exact absurd hc347 (by decide)))
  refine own_retV X0 hx hby hret hlk d21_37 (by decide) (by decide) ?_
  exact ⟨rfl, rfl, e0⟩
set_option maxRecDepth 65536 in
set_option maxHeartbeats 40000000 in
theorem rmmi_1 (l : Launch) (Z : State) (a0 : Array Value) (hw : ∀ d ∈ tables_1, d.before a0 Z = true)  (h0 : Heap) :
    OwnMet l Z (⟨"java/lang/Math", "min", "(II)I"⟩ : MethodName) jdk_29_method_69_code 2 (some .int) [] ({ frames := 0, cells := 0, slots := 0, locals := 0 } : Room) #[(.int (2 : Int32)), (.int (1 : Int32))] h0 (fun v h L => v = some (.int (1 : Int32)) ∧ L = [] ∧ h = h0) := by
  refine own_body (Jvm.Free.JP.mathPlain rfl (by decide +kernel)) (fun m => ef_mi_1 m ) ?_
  intro p e s m below meth c s₁ X0 hx hby hml hown hnm hret hlk hZ e0
  replace hown : s.vm.findClass "java/lang/Math" = some m.cls := hown
  replace hml : c.maxLocals = 2 := hml
  show Ends p.tables e below _ (s₁.setTop (mkF m 0 #[.val (.int (2 : Int32)), .val (.int (1 : Int32))] []))
  refine own_iloadN X0 hx hby d22_0 rfl rfl ?_
  refine own_iloadN X0 hx hby d22_1 rfl rfl ?_
  refine own_icmp_gt X0 hx hby d22_2 (pcY := 9) (pcN := 5) (by decide) rfl (fun (hc348 : 1 < 2) => ?_) (fun (hc348 : 2 ≤ 1) => False.elim (by exact absurd hc348 (by decide)))
  refine own_iloadN X0 hx hby d22_9 rfl rfl ?_
  refine own_ret X0 hx hby hret hlk d22_10 (.int (1 : Int32)) rfl (Or.inl ⟨rfl, by simp, _, rfl⟩) (by decide) (by decide) ?_
  exact ⟨rfl, rfl, e0⟩
set_option maxRecDepth 65536 in
set_option maxHeartbeats 40000000 in
theorem rmcl_2 (l : Launch) (Z : State) (a0 : Array Value) (hw : ∀ d ∈ tables_1, d.before a0 Z = true)  (h0 : Heap) :
    OwnMet l Z (⟨"java/util/Arrays", "checkLength", "(II)V"⟩ : MethodName) jdk_65_method_131_code 2 none [] ({ frames := 0, cells := 0, slots := 0, locals := 0 } : Room) #[(.int (0 : Int32)), (.int (2 : Int32))] h0 (fun v h L => v = none ∧ L = [] ∧ h = h0) := by
  refine own_body (plainFor_of_name pn_4) (fun m => ef_cl_2 m ) ?_
  intro p e s m below meth c s₁ X0 hx hby hml hown hnm hret hlk hZ e0
  replace hown : s.vm.findClass "java/util/Arrays" = some m.cls := hown
  replace hml : c.maxLocals = 2 := hml
  show Ends p.tables e below _ (s₁.setTop (mkF m 0 #[.val (.int (0 : Int32)), .val (.int (2 : Int32))] []))
  refine own_iloadN X0 hx hby d21_0 rfl rfl ?_
  refine own_iloadN X0 hx hby d21_1 rfl rfl ?_
  refine own_icmp_ge X0 hx hby d21_2 (pcY := 37) (pcN := 5) (by decide) rfl (fun (hc349 : 0 ≤ 2) => ?_) (fun (hc349 : 2 < 0) => False.elim (by exact absurd hc349 (by decide)))
  refine own_retV X0 hx hby hret hlk d21_37 (by decide) (by decide) ?_
  exact ⟨rfl, rfl, e0⟩
set_option maxRecDepth 65536 in
set_option maxHeartbeats 40000000 in
theorem rmmi_2 (l : Launch) (Z : State) (a0 : Array Value) (hw : ∀ d ∈ tables_1, d.before a0 Z = true)  (h0 : Heap) :
    OwnMet l Z (⟨"java/lang/Math", "min", "(II)I"⟩ : MethodName) jdk_29_method_69_code 2 (some .int) [] ({ frames := 0, cells := 0, slots := 0, locals := 0 } : Room) #[(.int (3 : Int32)), (.int (2 : Int32))] h0 (fun v h L => v = some (.int (2 : Int32)) ∧ L = [] ∧ h = h0) := by
  refine own_body (Jvm.Free.JP.mathPlain rfl (by decide +kernel)) (fun m => ef_mi_2 m ) ?_
  intro p e s m below meth c s₁ X0 hx hby hml hown hnm hret hlk hZ e0
  replace hown : s.vm.findClass "java/lang/Math" = some m.cls := hown
  replace hml : c.maxLocals = 2 := hml
  show Ends p.tables e below _ (s₁.setTop (mkF m 0 #[.val (.int (3 : Int32)), .val (.int (2 : Int32))] []))
  refine own_iloadN X0 hx hby d22_0 rfl rfl ?_
  refine own_iloadN X0 hx hby d22_1 rfl rfl ?_
  refine own_icmp_gt X0 hx hby d22_2 (pcY := 9) (pcN := 5) (by decide) rfl (fun (hc350 : 2 < 3) => ?_) (fun (hc350 : 3 ≤ 2) => False.elim (by exact absurd hc350 (by decide)))
  refine own_iloadN X0 hx hby d22_9 rfl rfl ?_
  refine own_ret X0 hx hby hret hlk d22_10 (.int (2 : Int32)) rfl (Or.inl ⟨rfl, by simp, _, rfl⟩) (by decide) (by decide) ?_
  exact ⟨rfl, rfl, e0⟩
set_option maxRecDepth 65536 in
set_option maxHeartbeats 40000000 in
theorem rmcl_3 (l : Launch) (Z : State) (a0 : Array Value) (hw : ∀ d ∈ tables_1, d.before a0 Z = true)  (h0 : Heap) :
    OwnMet l Z (⟨"java/util/Arrays", "checkLength", "(II)V"⟩ : MethodName) jdk_65_method_131_code 2 none [] ({ frames := 0, cells := 0, slots := 0, locals := 0 } : Room) #[(.int (0 : Int32)), (.int (3 : Int32))] h0 (fun v h L => v = none ∧ L = [] ∧ h = h0) := by
  refine own_body (plainFor_of_name pn_4) (fun m => ef_cl_3 m ) ?_
  intro p e s m below meth c s₁ X0 hx hby hml hown hnm hret hlk hZ e0
  replace hown : s.vm.findClass "java/util/Arrays" = some m.cls := hown
  replace hml : c.maxLocals = 2 := hml
  show Ends p.tables e below _ (s₁.setTop (mkF m 0 #[.val (.int (0 : Int32)), .val (.int (3 : Int32))] []))
  refine own_iloadN X0 hx hby d21_0 rfl rfl ?_
  refine own_iloadN X0 hx hby d21_1 rfl rfl ?_
  refine own_icmp_ge X0 hx hby d21_2 (pcY := 37) (pcN := 5) (by decide) rfl (fun (hc351 : 0 ≤ 3) => ?_) (fun (hc351 : 3 < 0) => False.elim (by exact absurd hc351 (by decide)))
  refine own_retV X0 hx hby hret hlk d21_37 (by decide) (by decide) ?_
  exact ⟨rfl, rfl, e0⟩
set_option maxRecDepth 65536 in
set_option maxHeartbeats 40000000 in
theorem rmmi_3 (l : Launch) (Z : State) (a0 : Array Value) (hw : ∀ d ∈ tables_1, d.before a0 Z = true)  (h0 : Heap) :
    OwnMet l Z (⟨"java/lang/Math", "min", "(II)I"⟩ : MethodName) jdk_29_method_69_code 2 (some .int) [] ({ frames := 0, cells := 0, slots := 0, locals := 0 } : Room) #[(.int (4 : Int32)), (.int (3 : Int32))] h0 (fun v h L => v = some (.int (3 : Int32)) ∧ L = [] ∧ h = h0) := by
  refine own_body (Jvm.Free.JP.mathPlain rfl (by decide +kernel)) (fun m => ef_mi_3 m ) ?_
  intro p e s m below meth c s₁ X0 hx hby hml hown hnm hret hlk hZ e0
  replace hown : s.vm.findClass "java/lang/Math" = some m.cls := hown
  replace hml : c.maxLocals = 2 := hml
  show Ends p.tables e below _ (s₁.setTop (mkF m 0 #[.val (.int (4 : Int32)), .val (.int (3 : Int32))] []))
  refine own_iloadN X0 hx hby d22_0 rfl rfl ?_
  refine own_iloadN X0 hx hby d22_1 rfl rfl ?_
  refine own_icmp_gt X0 hx hby d22_2 (pcY := 9) (pcN := 5) (by decide) rfl (fun (hc352 : 3 < 4) => ?_) (fun (hc352 : 4 ≤ 3) => False.elim (by exact absurd hc352 (by decide)))
  refine own_iloadN X0 hx hby d22_9 rfl rfl ?_
  refine own_ret X0 hx hby hret hlk d22_10 (.int (3 : Int32)) rfl (Or.inl ⟨rfl, by simp, _, rfl⟩) (by decide) (by decide) ?_
  exact ⟨rfl, rfl, e0⟩
set_option maxRecDepth 65536 in
set_option maxHeartbeats 40000000 in
theorem rmcopyOfRangeByte_1 (l : Launch) (Z : State) (a0 : Array Value) (hw : ∀ d ∈ tables_1, d.before a0 Z = true) (x0 : Addr) (h0 : Heap) (n0 : Nat) {ka : ClassId} {z0 z1 : Int32} (O : Old Z n0 h0) (Va : Arv Z h0 x0 ka .byte (2 : Int32) [(.int z0), (.int z1)] (.int 0)) :
    OwnMet l Z (⟨"java/util/Arrays", "copyOfRangeByte", "([BII)[B"⟩ : MethodName) jdk_65_method_133_code 5 (some (.array .byte)) [] ({ frames := 1, cells := 1, slots := 1, locals := 60 } : Room) #[(.ref x0), (.int (0 : Int32)), (.int (1 : Int32))] h0 (fun v h L => ∃ b k, v = some (.ref b) ∧ Fr n0 L ∧ Keep h0 h [] ∧ h0.size ≤ b ∧ n0 ≤ b ∧ Arv Z h b k .byte (1 : Int32) [(.int z0)] (.int 0)) := by
  refine own_body (plainFor_of_name pn_4) (fun m => ef_copyOfRangeByte_1 m x0) ?_
  intro p e s m below meth c s₁ X0 hx hby hml hown hnm hret hlk hZ e0
  replace hown : s.vm.findClass "java/util/Arrays" = some m.cls := hown
  replace hml : c.maxLocals = 5 := hml
  have N0 := Fr.nil n0
  show Ends p.tables e below _ (s₁.setTop (mkF m 0 #[.val (.ref x0), .val (.int (0 : Int32)), .val (.int (1 : Int32)), .unset, .unset] []))
  refine own_iloadN X0 hx hby d20_0 rfl rfl ?_
  refine own_iloadN X0 hx hby d20_1 rfl rfl ?_
  refine own_static X0 hx hby hZ (argsL := [(.int (0 : Int32)), (.int (1 : Int32))]) (rest := []) hown (hw _ tw_96) (hw _ tw_97) (hw _ tw_91) (hw _ tw_98) (by decide) (rmcl_1 l Z a0 hw h0) e0 (by rw [hml]; rfl) pd_7 rfl (by decide) (W := 0) (Nat.le_refl _) (by decide) (by decide) (by decide) d20_2 rfl rfl (fun v353 T353 L353 X353 hQ353 => ?_)
  obtain ⟨rfl, rfl, e353⟩ := hQ353
  show Ends p.tables e below _ (T353.setTop (mkF m 5 #[.val (.ref x0), .val (.int (0 : Int32)), .val (.int (1 : Int32)), .unset, .unset] []))
  refine own_iloadN X353 hx hby d20_5 rfl rfl ?_
  refine own_iloadN X353 hx hby d20_6 rfl rfl ?_
  refine own_isub X353 hx hby d20_7 rfl ?_
  show Ends p.tables e below _ (T353.setTop (mkF m 8 #[.val (.ref x0), .val (.int (0 : Int32)), .val (.int (1 : Int32)), .unset, .unset] [(.int (1 : Int32))]))
  refine own_istoreN X353 hx hby d20_8 rfl #[.val (.ref x0), .val (.int (0 : Int32)), .val (.int (1 : Int32)), .val (.int (1 : Int32)), .unset] rfl ?_
  refine own_iloadN X353 hx hby d20_9 rfl rfl ?_
  refine own_newarray X353 hx hby hZ (aty := .byte) (hw _ tw_19) e353 (by decide) 1 (by decide) (by decide) (by decide) (by decide) .byte rfl [(.int (0 : Int32))] rfl d20_10 rfl (fun T354 h354 b354 k354 X354 e354 g354 E354 V354 => ?_)
  have ge_b354 : n0 ≤ b354 := own_ge O g354
  have sz_b354 : h0.size ≤ b354 := Nat.le_trans (Keep.refl h0 []).1 (Nat.le_of_eq g354.symm)
  have ne_x0_b354 : x0 ≠ b354 := own_lt Va.lt g354
  refine own_astore X354 hx hby d20_12 rfl #[.val (.ref x0), .val (.int (0 : Int32)), .val (.int (1 : Int32)), .val (.int (1 : Int32)), .val (.ref b354)] rfl rfl ?_
  refine own_aloadN X354 hx hby d20_14 rfl rfl rfl ?_
  refine own_iloadN X354 hx hby d20_15 rfl rfl ?_
  refine own_aload X354 hx hby d20_16 rfl rfl rfl ?_
  refine own_iconst X354 hx hby d20_18 rfl (0 : Int32) rfl ?_
  refine own_aloadN X354 hx hby d20_19 rfl rfl rfl ?_
  have f355 := (Va.ext E354)
  refine own_arraylength X354 hx hby hZ e354 f355 d20_20 rfl ?_
  refine own_iloadN X354 hx hby d20_21 rfl rfl ?_
  refine own_isub X354 hx hby d20_22 rfl ?_
  show Ends p.tables e below _ (T354.setTop (mkF m 23 #[.val (.ref x0), .val (.int (0 : Int32)), .val (.int (1 : Int32)), .val (.int (1 : Int32)), .val (.ref b354)] [(.int (2 : Int32)), (.int (0 : Int32)), (.ref b354), (.int (0 : Int32)), (.ref x0)]))
  refine own_iloadN X354 hx hby d20_23 rfl rfl ?_
  refine own_static X354 hx hby hZ (argsL := [(.int (2 : Int32)), (.int (1 : Int32))]) (rest := [(.int (0 : Int32)), (.ref b354), (.int (0 : Int32)), (.ref x0)]) hown (hw _ tw_99) (hw _ tw_100) (hw _ tw_101) (hw _ tw_102) (by decide) (rmmi_1 l Z a0 hw h354) e354 (by rw [hml]; rfl) pd_8 rfl (by decide) (W := 4) (Nat.le_refl _) (by decide) (by decide) (by decide) d20_24 rfl rfl (fun v356 T356 L356 X356 hQ356 => ?_)
  obtain ⟨rfl, rfl, e356⟩ := hQ356
  show Ends p.tables e below _ (T356.setTop (mkF m 27 #[.val (.ref x0), .val (.int (0 : Int32)), .val (.int (1 : Int32)), .val (.int (1 : Int32)), .val (.ref b354)] [(.int (1 : Int32)), (.int (0 : Int32)), (.ref b354), (.int (0 : Int32)), (.ref x0)]))
  refine own_arraycopy X356 hx hby hZ (us := [(.int z0)]) hown (hw _ tw_103) (hw _ tw_106) (hw _ tw_104) (hw _ tw_105) e356 f355 V354 (Or.inl ⟨rfl, rfl⟩) (by decide) (by decide) (by decide) (by decide) (by decide) rfl (show 1 ≤ 1 by decide) (Fr.app (Fr.app N0 (Fr.nil _)) (Fr.nil _)) ge_b354 [(.int z0)] rfl (by rw [hml]; rfl) (by decide) (W := 0) (Nat.le_refl _) (by decide) d20_27 rfl (fun T357 h357 L357 X357 e357 N357 K357 V357 => ?_)
  refine own_aload X357 hx hby d20_30 rfl rfl rfl ?_
  refine own_ret X357 hx hby hret hlk d20_32 (.ref b354) rfl (Or.inr (Or.inr ⟨rfl, rfl, rfl⟩)) (by decide) (by decide) ?_
  rw [e357]
  have f358 := (((Keep.refl h0 []).ext E354).trans K357 (allS (Or.inr sz_b354) all0))
  exact ⟨b354, _, rfl, N357, f358, sz_b354, ge_b354, V357⟩
set_option maxRecDepth 65536 in
set_option maxHeartbeats 40000000 in
theorem rmcopyOfRangeByte_2 (l : Launch) (Z : State) (a0 : Array Value) (hw : ∀ d ∈ tables_1, d.before a0 Z = true) (x0 : Addr) (h0 : Heap) (n0 : Nat) {ka : ClassId} {z0 z1 z2 : Int32} (O : Old Z n0 h0) (Va : Arv Z h0 x0 ka .byte (3 : Int32) [(.int z0), (.int z1), (.int z2)] (.int 0)) :
    OwnMet l Z (⟨"java/util/Arrays", "copyOfRangeByte", "([BII)[B"⟩ : MethodName) jdk_65_method_133_code 5 (some (.array .byte)) [] ({ frames := 1, cells := 1, slots := 2, locals := 60 } : Room) #[(.ref x0), (.int (0 : Int32)), (.int (2 : Int32))] h0 (fun v h L => ∃ b k, v = some (.ref b) ∧ Fr n0 L ∧ Keep h0 h [] ∧ h0.size ≤ b ∧ n0 ≤ b ∧ Arv Z h b k .byte (2 : Int32) [(.int z0), (.int z1)] (.int 0)) := by
  refine own_body (plainFor_of_name pn_4) (fun m => ef_copyOfRangeByte_2 m x0) ?_
  intro p e s m below meth c s₁ X0 hx hby hml hown hnm hret hlk hZ e0
  replace hown : s.vm.findClass "java/util/Arrays" = some m.cls := hown
  replace hml : c.maxLocals = 5 := hml
  have N0 := Fr.nil n0
  show Ends p.tables e below _ (s₁.setTop (mkF m 0 #[.val (.ref x0), .val (.int (0 : Int32)), .val (.int (2 : Int32)), .unset, .unset] []))
  refine own_iloadN X0 hx hby d20_0 rfl rfl ?_
  refine own_iloadN X0 hx hby d20_1 rfl rfl ?_
  refine own_static X0 hx hby hZ (argsL := [(.int (0 : Int32)), (.int (2 : Int32))]) (rest := []) hown (hw _ tw_96) (hw _ tw_97) (hw _ tw_91) (hw _ tw_98) (by decide) (rmcl_2 l Z a0 hw h0) e0 (by rw [hml]; rfl) pd_7 rfl (by decide) (W := 0) (Nat.le_refl _) (by decide) (by decide) (by decide) d20_2 rfl rfl (fun v359 T359 L359 X359 hQ359 => ?_)
  obtain ⟨rfl, rfl, e359⟩ := hQ359
  show Ends p.tables e below _ (T359.setTop (mkF m 5 #[.val (.ref x0), .val (.int (0 : Int32)), .val (.int (2 : Int32)), .unset, .unset] []))
  refine own_iloadN X359 hx hby d20_5 rfl rfl ?_
  refine own_iloadN X359 hx hby d20_6 rfl rfl ?_
  refine own_isub X359 hx hby d20_7 rfl ?_
  show Ends p.tables e below _ (T359.setTop (mkF m 8 #[.val (.ref x0), .val (.int (0 : Int32)), .val (.int (2 : Int32)), .unset, .unset] [(.int (2 : Int32))]))
  refine own_istoreN X359 hx hby d20_8 rfl #[.val (.ref x0), .val (.int (0 : Int32)), .val (.int (2 : Int32)), .val (.int (2 : Int32)), .unset] rfl ?_
  refine own_iloadN X359 hx hby d20_9 rfl rfl ?_
  refine own_newarray X359 hx hby hZ (aty := .byte) (hw _ tw_19) e359 (by decide) 2 (by decide) (by decide) (by decide) (by decide) .byte rfl [(.int (0 : Int32)), (.int (0 : Int32))] rfl d20_10 rfl (fun T360 h360 b360 k360 X360 e360 g360 E360 V360 => ?_)
  have ge_b360 : n0 ≤ b360 := own_ge O g360
  have sz_b360 : h0.size ≤ b360 := Nat.le_trans (Keep.refl h0 []).1 (Nat.le_of_eq g360.symm)
  have ne_x0_b360 : x0 ≠ b360 := own_lt Va.lt g360
  refine own_astore X360 hx hby d20_12 rfl #[.val (.ref x0), .val (.int (0 : Int32)), .val (.int (2 : Int32)), .val (.int (2 : Int32)), .val (.ref b360)] rfl rfl ?_
  refine own_aloadN X360 hx hby d20_14 rfl rfl rfl ?_
  refine own_iloadN X360 hx hby d20_15 rfl rfl ?_
  refine own_aload X360 hx hby d20_16 rfl rfl rfl ?_
  refine own_iconst X360 hx hby d20_18 rfl (0 : Int32) rfl ?_
  refine own_aloadN X360 hx hby d20_19 rfl rfl rfl ?_
  have f361 := (Va.ext E360)
  refine own_arraylength X360 hx hby hZ e360 f361 d20_20 rfl ?_
  refine own_iloadN X360 hx hby d20_21 rfl rfl ?_
  refine own_isub X360 hx hby d20_22 rfl ?_
  show Ends p.tables e below _ (T360.setTop (mkF m 23 #[.val (.ref x0), .val (.int (0 : Int32)), .val (.int (2 : Int32)), .val (.int (2 : Int32)), .val (.ref b360)] [(.int (3 : Int32)), (.int (0 : Int32)), (.ref b360), (.int (0 : Int32)), (.ref x0)]))
  refine own_iloadN X360 hx hby d20_23 rfl rfl ?_
  refine own_static X360 hx hby hZ (argsL := [(.int (3 : Int32)), (.int (2 : Int32))]) (rest := [(.int (0 : Int32)), (.ref b360), (.int (0 : Int32)), (.ref x0)]) hown (hw _ tw_99) (hw _ tw_100) (hw _ tw_101) (hw _ tw_102) (by decide) (rmmi_2 l Z a0 hw h360) e360 (by rw [hml]; rfl) pd_8 rfl (by decide) (W := 4) (Nat.le_refl _) (by decide) (by decide) (by decide) d20_24 rfl rfl (fun v362 T362 L362 X362 hQ362 => ?_)
  obtain ⟨rfl, rfl, e362⟩ := hQ362
  show Ends p.tables e below _ (T362.setTop (mkF m 27 #[.val (.ref x0), .val (.int (0 : Int32)), .val (.int (2 : Int32)), .val (.int (2 : Int32)), .val (.ref b360)] [(.int (2 : Int32)), (.int (0 : Int32)), (.ref b360), (.int (0 : Int32)), (.ref x0)]))
  refine own_arraycopy X362 hx hby hZ (us := [(.int z0), (.int z1)]) hown (hw _ tw_103) (hw _ tw_106) (hw _ tw_104) (hw _ tw_105) e362 f361 V360 (Or.inl ⟨rfl, rfl⟩) (by decide) (by decide) (by decide) (by decide) (by decide) rfl (show 2 ≤ 2 by decide) (Fr.app (Fr.app N0 (Fr.nil _)) (Fr.nil _)) ge_b360 [(.int z0), (.int z1)] rfl (by rw [hml]; rfl) (by decide) (W := 0) (Nat.le_refl _) (by decide) d20_27 rfl (fun T363 h363 L363 X363 e363 N363 K363 V363 => ?_)
  refine own_aload X363 hx hby d20_30 rfl rfl rfl ?_
  refine own_ret X363 hx hby hret hlk d20_32 (.ref b360) rfl (Or.inr (Or.inr ⟨rfl, rfl, rfl⟩)) (by decide) (by decide) ?_
  rw [e363]
  have f364 := (((Keep.refl h0 []).ext E360).trans K363 (allS (Or.inr sz_b360) all0))
  exact ⟨b360, _, rfl, N363, f364, sz_b360, ge_b360, V363⟩
set_option maxRecDepth 65536 in
set_option maxHeartbeats 40000000 in
theorem rmcopyOfRangeByte_3 (l : Launch) (Z : State) (a0 : Array Value) (hw : ∀ d ∈ tables_1, d.before a0 Z = true) (x0 : Addr) (h0 : Heap) (n0 : Nat) {ka : ClassId} {z0 z1 z2 z3 : Int32} (O : Old Z n0 h0) (Va : Arv Z h0 x0 ka .byte (4 : Int32) [(.int z0), (.int z1), (.int z2), (.int z3)] (.int 0)) :
    OwnMet l Z (⟨"java/util/Arrays", "copyOfRangeByte", "([BII)[B"⟩ : MethodName) jdk_65_method_133_code 5 (some (.array .byte)) [] ({ frames := 1, cells := 1, slots := 3, locals := 60 } : Room) #[(.ref x0), (.int (0 : Int32)), (.int (3 : Int32))] h0 (fun v h L => ∃ b k, v = some (.ref b) ∧ Fr n0 L ∧ Keep h0 h [] ∧ h0.size ≤ b ∧ n0 ≤ b ∧ Arv Z h b k .byte (3 : Int32) [(.int z0), (.int z1), (.int z2)] (.int 0)) := by
  refine own_body (plainFor_of_name pn_4) (fun m => ef_copyOfRangeByte_3 m x0) ?_
  intro p e s m below meth c s₁ X0 hx hby hml hown hnm hret hlk hZ e0
  replace hown : s.vm.findClass "java/util/Arrays" = some m.cls := hown
  replace hml : c.maxLocals = 5 := hml
  have N0 := Fr.nil n0
  show Ends p.tables e below _ (s₁.setTop (mkF m 0 #[.val (.ref x0), .val (.int (0 : Int32)), .val (.int (3 : Int32)), .unset, .unset] []))
  refine own_iloadN X0 hx hby d20_0 rfl rfl ?_
  refine own_iloadN X0 hx hby d20_1 rfl rfl ?_
  refine own_static X0 hx hby hZ (argsL := [(.int (0 : Int32)), (.int (3 : Int32))]) (rest := []) hown (hw _ tw_96) (hw _ tw_97) (hw _ tw_91) (hw _ tw_98) (by decide) (rmcl_3 l Z a0 hw h0) e0 (by rw [hml]; rfl) pd_7 rfl (by decide) (W := 0) (Nat.le_refl _) (by decide) (by decide) (by decide) d20_2 rfl rfl (fun v365 T365 L365 X365 hQ365 => ?_)
  obtain ⟨rfl, rfl, e365⟩ := hQ365
  show Ends p.tables e below _ (T365.setTop (mkF m 5 #[.val (.ref x0), .val (.int (0 : Int32)), .val (.int (3 : Int32)), .unset, .unset] []))
  refine own_iloadN X365 hx hby d20_5 rfl rfl ?_
  refine own_iloadN X365 hx hby d20_6 rfl rfl ?_
  refine own_isub X365 hx hby d20_7 rfl ?_
  show Ends p.tables e below _ (T365.setTop (mkF m 8 #[.val (.ref x0), .val (.int (0 : Int32)), .val (.int (3 : Int32)), .unset, .unset] [(.int (3 : Int32))]))
  refine own_istoreN X365 hx hby d20_8 rfl #[.val (.ref x0), .val (.int (0 : Int32)), .val (.int (3 : Int32)), .val (.int (3 : Int32)), .unset] rfl ?_
  refine own_iloadN X365 hx hby d20_9 rfl rfl ?_
  refine own_newarray X365 hx hby hZ (aty := .byte) (hw _ tw_19) e365 (by decide) 3 (by decide) (by decide) (by decide) (by decide) .byte rfl [(.int (0 : Int32)), (.int (0 : Int32)), (.int (0 : Int32))] rfl d20_10 rfl (fun T366 h366 b366 k366 X366 e366 g366 E366 V366 => ?_)
  have ge_b366 : n0 ≤ b366 := own_ge O g366
  have sz_b366 : h0.size ≤ b366 := Nat.le_trans (Keep.refl h0 []).1 (Nat.le_of_eq g366.symm)
  have ne_x0_b366 : x0 ≠ b366 := own_lt Va.lt g366
  refine own_astore X366 hx hby d20_12 rfl #[.val (.ref x0), .val (.int (0 : Int32)), .val (.int (3 : Int32)), .val (.int (3 : Int32)), .val (.ref b366)] rfl rfl ?_
  refine own_aloadN X366 hx hby d20_14 rfl rfl rfl ?_
  refine own_iloadN X366 hx hby d20_15 rfl rfl ?_
  refine own_aload X366 hx hby d20_16 rfl rfl rfl ?_
  refine own_iconst X366 hx hby d20_18 rfl (0 : Int32) rfl ?_
  refine own_aloadN X366 hx hby d20_19 rfl rfl rfl ?_
  have f367 := (Va.ext E366)
  refine own_arraylength X366 hx hby hZ e366 f367 d20_20 rfl ?_
  refine own_iloadN X366 hx hby d20_21 rfl rfl ?_
  refine own_isub X366 hx hby d20_22 rfl ?_
  show Ends p.tables e below _ (T366.setTop (mkF m 23 #[.val (.ref x0), .val (.int (0 : Int32)), .val (.int (3 : Int32)), .val (.int (3 : Int32)), .val (.ref b366)] [(.int (4 : Int32)), (.int (0 : Int32)), (.ref b366), (.int (0 : Int32)), (.ref x0)]))
  refine own_iloadN X366 hx hby d20_23 rfl rfl ?_
  refine own_static X366 hx hby hZ (argsL := [(.int (4 : Int32)), (.int (3 : Int32))]) (rest := [(.int (0 : Int32)), (.ref b366), (.int (0 : Int32)), (.ref x0)]) hown (hw _ tw_99) (hw _ tw_100) (hw _ tw_101) (hw _ tw_102) (by decide) (rmmi_3 l Z a0 hw h366) e366 (by rw [hml]; rfl) pd_8 rfl (by decide) (W := 4) (Nat.le_refl _) (by decide) (by decide) (by decide) d20_24 rfl rfl (fun v368 T368 L368 X368 hQ368 => ?_)
  obtain ⟨rfl, rfl, e368⟩ := hQ368
  show Ends p.tables e below _ (T368.setTop (mkF m 27 #[.val (.ref x0), .val (.int (0 : Int32)), .val (.int (3 : Int32)), .val (.int (3 : Int32)), .val (.ref b366)] [(.int (3 : Int32)), (.int (0 : Int32)), (.ref b366), (.int (0 : Int32)), (.ref x0)]))
  refine own_arraycopy X368 hx hby hZ (us := [(.int z0), (.int z1), (.int z2)]) hown (hw _ tw_103) (hw _ tw_106) (hw _ tw_104) (hw _ tw_105) e368 f367 V366 (Or.inl ⟨rfl, rfl⟩) (by decide) (by decide) (by decide) (by decide) (by decide) rfl (show 3 ≤ 3 by decide) (Fr.app (Fr.app N0 (Fr.nil _)) (Fr.nil _)) ge_b366 [(.int z0), (.int z1), (.int z2)] rfl (by rw [hml]; rfl) (by decide) (W := 0) (Nat.le_refl _) (by decide) d20_27 rfl (fun T369 h369 L369 X369 e369 N369 K369 V369 => ?_)
  refine own_aload X369 hx hby d20_30 rfl rfl rfl ?_
  refine own_ret X369 hx hby hret hlk d20_32 (.ref b366) rfl (Or.inr (Or.inr ⟨rfl, rfl, rfl⟩)) (by decide) (by decide) ?_
  rw [e369]
  have f370 := (((Keep.refl h0 []).ext E366).trans K369 (allS (Or.inr sz_b366) all0))
  exact ⟨b366, _, rfl, N369, f370, sz_b366, ge_b366, V369⟩
set_option maxRecDepth 65536 in
set_option maxHeartbeats 40000000 in
theorem rmcopyOfRange_1 (l : Launch) (Z : State) (a0 : Array Value) (hw : ∀ d ∈ tables_1, d.before a0 Z = true) (x0 : Addr) (h0 : Heap) (n0 : Nat) {ka : ClassId} {z0 z1 : Int32} (O : Old Z n0 h0) (Va : Arv Z h0 x0 ka .byte (2 : Int32) [(.int z0), (.int z1)] (.int 0)) :
    OwnMet l Z (⟨"java/util/Arrays", "copyOfRange", "([BII)[B"⟩ : MethodName) jdk_65_method_132_code 3 (some (.array .byte)) [] ({ frames := 2, cells := 1, slots := 1, locals := 76 } : Room) #[(.ref x0), (.int (0 : Int32)), (.int (1 : Int32))] h0 (fun v h L => ∃ b k, v = some (.ref b) ∧ Fr n0 L ∧ Keep h0 h [] ∧ h0.size ≤ b ∧ n0 ≤ b ∧ Arv Z h b k .byte (1 : Int32) [(.int z0)] (.int 0)) := by
  refine own_body (plainFor_of_name pn_4) (fun m => ef_copyOfRange_1 m x0) ?_
  intro p e s m below meth c s₁ X0 hx hby hml hown hnm hret hlk hZ e0
  replace hown : s.vm.findClass "java/util/Arrays" = some m.cls := hown
  replace hml : c.maxLocals = 3 := hml
  have N0 := Fr.nil n0
  show Ends p.tables e below _ (s₁.setTop (mkF m 0 #[.val (.ref x0), .val (.int (0 : Int32)), .val (.int (1 : Int32))] []))
  refine own_iloadN X0 hx hby d19_0 rfl rfl ?_
  refine own_if_ne X0 hx hby d19_1 (pcY := 10) (pcN := 4) (by decide) rfl (fun (hc371 : ¬ (0 : Int32) = (0 : Int32)) => False.elim (by exact absurd hc371 (by decide))) (fun (hc371 : (0 : Int32) = (0 : Int32)) => ?_)
  refine own_iloadN X0 hx hby d19_4 rfl rfl ?_
  refine own_aloadN X0 hx hby d19_5 rfl rfl rfl ?_
  refine own_arraylength X0 hx hby hZ e0 Va d19_6 rfl ?_
  refine own_icmp_eq X0 hx hby d19_7 (pcY := 17) (pcN := 10) (by decide) rfl (fun (hc372 : (1 : Int32) = (2 : Int32)) => False.elim (by exact absurd hc372 (by decide))) (fun (hc372 : ¬ (1 : Int32) = (2 : Int32)) => ?_)
  refine own_aloadN X0 hx hby d19_10 rfl rfl rfl ?_
  refine own_iloadN X0 hx hby d19_11 rfl rfl ?_
  refine own_iloadN X0 hx hby d19_12 rfl rfl ?_
  refine own_static X0 hx hby hZ (argsL := [(.ref x0), (.int (0 : Int32)), (.int (1 : Int32))]) (rest := []) hown (hw _ tw_93) (hw _ tw_94) (hw _ tw_91) (hw _ tw_95) (by decide) (rmcopyOfRangeByte_1 l Z a0 hw x0 h0 n0 O Va) e0 (by rw [hml]; rfl) pd_9 rfl (by decide) (W := 0) (Nat.le_refl _) (by decide) (by decide) (by decide) d19_13 rfl rfl (fun v373 T373 L373 X373 hQ373 => ?_)
  obtain ⟨b373, k373, rfl, N373q, K373, sq373, gq373, V373⟩ := hQ373
  show Ends p.tables e below _ (T373.setTop (mkF m 16 #[.val (.ref x0), .val (.int (0 : Int32)), .val (.int (1 : Int32))] [(.ref b373)]))
  refine own_ret X373 hx hby hret hlk d19_16 (.ref b373) rfl (Or.inr (Or.inr ⟨rfl, rfl, rfl⟩)) (by decide) (by decide) ?_
  have f374 := ((Keep.refl h0 []).trans K373 all0)
  exact ⟨b373, _, rfl, (Fr.app N0 N373q), f374, sq373, gq373, V373⟩
set_option maxRecDepth 65536 in
set_option maxHeartbeats 40000000 in
theorem rmcopyOfRange_2 (l : Launch) (Z : State) (a0 : Array Value) (hw : ∀ d ∈ tables_1, d.before a0 Z = true) (x0 : Addr) (h0 : Heap) (n0 : Nat) {ka : ClassId} {z0 z1 z2 : Int32} (O : Old Z n0 h0) (Va : Arv Z h0 x0 ka .byte (3 : Int32) [(.int z0), (.int z1), (.int z2)] (.int 0)) :
    OwnMet l Z (⟨"java/util/Arrays", "copyOfRange", "([BII)[B"⟩ : MethodName) jdk_65_method_132_code 3 (some (.array .byte)) [] ({ frames := 2, cells := 1, slots := 2, locals := 76 } : Room) #[(.ref x0), (.int (0 : Int32)), (.int (2 : Int32))] h0 (fun v h L => ∃ b k, v = some (.ref b) ∧ Fr n0 L ∧ Keep h0 h [] ∧ h0.size ≤ b ∧ n0 ≤ b ∧ Arv Z h b k .byte (2 : Int32) [(.int z0), (.int z1)] (.int 0)) := by
  refine own_body (plainFor_of_name pn_4) (fun m => ef_copyOfRange_2 m x0) ?_
  intro p e s m below meth c s₁ X0 hx hby hml hown hnm hret hlk hZ e0
  replace hown : s.vm.findClass "java/util/Arrays" = some m.cls := hown
  replace hml : c.maxLocals = 3 := hml
  have N0 := Fr.nil n0
  show Ends p.tables e below _ (s₁.setTop (mkF m 0 #[.val (.ref x0), .val (.int (0 : Int32)), .val (.int (2 : Int32))] []))
  refine own_iloadN X0 hx hby d19_0 rfl rfl ?_
  refine own_if_ne X0 hx hby d19_1 (pcY := 10) (pcN := 4) (by decide) rfl (fun (hc375 : ¬ (0 : Int32) = (0 : Int32)) => False.elim (by exact absurd hc375 (by decide))) (fun (hc375 : (0 : Int32) = (0 : Int32)) => ?_)
  refine own_iloadN X0 hx hby d19_4 rfl rfl ?_
  refine own_aloadN X0 hx hby d19_5 rfl rfl rfl ?_
  refine own_arraylength X0 hx hby hZ e0 Va d19_6 rfl ?_
  refine own_icmp_eq X0 hx hby d19_7 (pcY := 17) (pcN := 10) (by decide) rfl (fun (hc376 : (2 : Int32) = (3 : Int32)) => False.elim (by exact absurd hc376 (by decide))) (fun (hc376 : ¬ (2 : Int32) = (3 : Int32)) => ?_)
  refine own_aloadN X0 hx hby d19_10 rfl rfl rfl ?_
  refine own_iloadN X0 hx hby d19_11 rfl rfl ?_
  refine own_iloadN X0 hx hby d19_12 rfl rfl ?_
  refine own_static X0 hx hby hZ (argsL := [(.ref x0), (.int (0 : Int32)), (.int (2 : Int32))]) (rest := []) hown (hw _ tw_93) (hw _ tw_94) (hw _ tw_91) (hw _ tw_95) (by decide) (rmcopyOfRangeByte_2 l Z a0 hw x0 h0 n0 O Va) e0 (by rw [hml]; rfl) pd_9 rfl (by decide) (W := 0) (Nat.le_refl _) (by decide) (by decide) (by decide) d19_13 rfl rfl (fun v377 T377 L377 X377 hQ377 => ?_)
  obtain ⟨b377, k377, rfl, N377q, K377, sq377, gq377, V377⟩ := hQ377
  show Ends p.tables e below _ (T377.setTop (mkF m 16 #[.val (.ref x0), .val (.int (0 : Int32)), .val (.int (2 : Int32))] [(.ref b377)]))
  refine own_ret X377 hx hby hret hlk d19_16 (.ref b377) rfl (Or.inr (Or.inr ⟨rfl, rfl, rfl⟩)) (by decide) (by decide) ?_
  have f378 := ((Keep.refl h0 []).trans K377 all0)
  exact ⟨b377, _, rfl, (Fr.app N0 N377q), f378, sq377, gq377, V377⟩
set_option maxRecDepth 65536 in
set_option maxHeartbeats 40000000 in
theorem rmcopyOfRange_3 (l : Launch) (Z : State) (a0 : Array Value) (hw : ∀ d ∈ tables_1, d.before a0 Z = true) (x0 : Addr) (h0 : Heap) (n0 : Nat) {ka : ClassId} {z0 z1 z2 z3 : Int32} (O : Old Z n0 h0) (Va : Arv Z h0 x0 ka .byte (4 : Int32) [(.int z0), (.int z1), (.int z2), (.int z3)] (.int 0)) :
    OwnMet l Z (⟨"java/util/Arrays", "copyOfRange", "([BII)[B"⟩ : MethodName) jdk_65_method_132_code 3 (some (.array .byte)) [] ({ frames := 2, cells := 1, slots := 3, locals := 76 } : Room) #[(.ref x0), (.int (0 : Int32)), (.int (3 : Int32))] h0 (fun v h L => ∃ b k, v = some (.ref b) ∧ Fr n0 L ∧ Keep h0 h [] ∧ h0.size ≤ b ∧ n0 ≤ b ∧ Arv Z h b k .byte (3 : Int32) [(.int z0), (.int z1), (.int z2)] (.int 0)) := by
  refine own_body (plainFor_of_name pn_4) (fun m => ef_copyOfRange_3 m x0) ?_
  intro p e s m below meth c s₁ X0 hx hby hml hown hnm hret hlk hZ e0
  replace hown : s.vm.findClass "java/util/Arrays" = some m.cls := hown
  replace hml : c.maxLocals = 3 := hml
  have N0 := Fr.nil n0
  show Ends p.tables e below _ (s₁.setTop (mkF m 0 #[.val (.ref x0), .val (.int (0 : Int32)), .val (.int (3 : Int32))] []))
  refine own_iloadN X0 hx hby d19_0 rfl rfl ?_
  refine own_if_ne X0 hx hby d19_1 (pcY := 10) (pcN := 4) (by decide) rfl (fun (hc379 : ¬ (0 : Int32) = (0 : Int32)) => False.elim (by exact absurd hc379 (by decide))) (fun (hc379 : (0 : Int32) = (0 : Int32)) => ?_)
  refine own_iloadN X0 hx hby d19_4 rfl rfl ?_
  refine own_aloadN X0 hx hby d19_5 rfl rfl rfl ?_
  refine own_arraylength X0 hx hby hZ e0 Va d19_6 rfl ?_
  refine own_icmp_eq X0 hx hby d19_7 (pcY := 17) (pcN := 10) (by decide) rfl (fun (hc380 : (3 : Int32) = (4 : Int32)) => False.elim (by exact absurd hc380 (by decide))) (fun (hc380 : ¬ (3 : Int32) = (4 : Int32)) => ?_)
  refine own_aloadN X0 hx hby d19_10 rfl rfl rfl ?_
  refine own_iloadN X0 hx hby d19_11 rfl rfl ?_
  refine own_iloadN X0 hx hby d19_12 rfl rfl ?_
  refine own_static X0 hx hby hZ (argsL := [(.ref x0), (.int (0 : Int32)), (.int (3 : Int32))]) (rest := []) hown (hw _ tw_93) (hw _ tw_94) (hw _ tw_91) (hw _ tw_95) (by decide) (rmcopyOfRangeByte_3 l Z a0 hw x0 h0 n0 O Va) e0 (by rw [hml]; rfl) pd_9 rfl (by decide) (W := 0) (Nat.le_refl _) (by decide) (by decide) (by decide) d19_13 rfl rfl (fun v381 T381 L381 X381 hQ381 => ?_)
  obtain ⟨b381, k381, rfl, N381q, K381, sq381, gq381, V381⟩ := hQ381
  show Ends p.tables e below _ (T381.setTop (mkF m 16 #[.val (.ref x0), .val (.int (0 : Int32)), .val (.int (3 : Int32))] [(.ref b381)]))
  refine own_ret X381 hx hby hret hlk d19_16 (.ref b381) rfl (Or.inr (Or.inr ⟨rfl, rfl, rfl⟩)) (by decide) (by decide) ?_
  have f382 := ((Keep.refl h0 []).trans K381 all0)
  exact ⟨b381, _, rfl, (Fr.app N0 N381q), f382, sq381, gq381, V381⟩
set_option maxRecDepth 65536 in
set_option maxHeartbeats 40000000 in
theorem rmibb (l : Launch) (Z : State) (a0 : Array Value) (hw : ∀ d ∈ tables_1, d.before a0 Z = true) (x0 : Addr) (x1 : Addr) (h0 : Heap) (n0 : Nat) (gx : n0 ≤ x0) (E : Exa Z h0 x0 "java/lang/String") (Fc : Fld Z h0 x0 "java/lang/String" "coder" "B" (.int 0)) (Fv : Fld Z h0 x0 "java/lang/String" "value" "[B" .null) :
    OwnMet l Z (⟨"java/lang/String", "<init>", "([BB)V"⟩ : MethodName) jdk_42_method_151_code 3 none [] ({ frames := 1, cells := 0, slots := 0, locals := 20 } : Room) #[(.ref x0), (.ref x1), (.int (0 : Int32))] h0 (fun v h L => v = none ∧ Fr n0 L ∧ Keep h0 h [x0] ∧ Fld Z h x0 "java/lang/String" "coder" "B" (.int 0) ∧ Fld Z h x0 "java/lang/String" "value" "[B" (.ref x1)) := by
  refine own_body (plainFor_of_name pn_0) (fun m => ef_ibb m x0 x1) ?_
  intro p e s m below meth c s₁ X0 hx hby hml hown hnm hret hlk hZ e0
  replace hown : s.vm.findClass "java/lang/String" = some m.cls := hown
  replace hml : c.maxLocals = 3 := hml
  have N0 := Fr.nil n0
  show Ends p.tables e below _ (s₁.setTop (mkF m 0 #[.val (.ref x0), .val (.ref x1), .val (.int (0 : Int32))] []))
  refine own_aloadN X0 hx hby d23_0 rfl rfl rfl ?_
  refine own_initO X0 hx hby hZ hown (hw _ tw_15) (hw _ tw_16) (hw _ tw_17) e0 (by rw [hml]; rfl) (by decide) (W := 0) (Nat.le_refl _) (by decide) d23_1 rfl (fun T383 X383 e383 => ?_)
  refine own_aloadN X383 hx hby d23_4 rfl rfl rfl ?_
  refine own_aloadN X383 hx hby d23_5 rfl rfl rfl ?_
  refine own_putfield X383 hx hby hZ hown (host := "") (Or.inl (hw _ tw_24)) Via.refl e383 Fv E (Or.inr ⟨(hw _ tw_20), rfl, hnm⟩) (hw _ tw_5) (ty := (.array .byte)) (by decide) rfl rfl N0 gx  d23_6 rfl (fun T384 h384 L384 X384 e384 W384 N384 => ?_)
  have F384 := Fv.same W384
  refine own_aloadN X384 hx hby d23_9 rfl rfl rfl ?_
  refine own_iloadN X384 hx hby d23_10 rfl rfl ?_
  have f385 := (E.wr W384)
  have f386 := (Fc.other W384 (Or.inr (slot_ne (Or.inr (hw _ tw_21)) (Or.inr (hw _ tw_20)) (by decide) (t := .byte) (t' := (.array .byte)) (by decide) (by decide))))
  refine own_putfield X384 hx hby hZ hown (host := "") (Or.inl (hw _ tw_25)) Via.refl e384 f386 f385 (Or.inr ⟨(hw _ tw_21), rfl, hnm⟩) (hw _ tw_5) (ty := .byte) (by decide) rfl rfl N384 gx  d23_11 rfl (fun T387 h387 L387 X387 e387 W387 N387 => ?_)
  have F387 := f386.same W387
  refine own_retV X387 hx hby hret hlk d23_14 (by decide) (by decide) ?_
  have f388 := (((Keep.refl h0 [x0]).wr W384 (Or.inl (by simp))).wr W387 (Or.inl (by simp)))
  have f389 := (F384.other W387 (Or.inr (slot_ne (Or.inr (hw _ tw_20)) (Or.inr (hw _ tw_21)) (by decide) (t := (.array .byte)) (t' := .byte) (by decide) (by decide))))
  rw [e387]
  exact ⟨rfl, N387, f388, F387, f389⟩
set_option maxRecDepth 65536 in
set_option maxHeartbeats 40000000 in
theorem rmns_0 (l : Launch) (Z : State) (a0 : Array Value) (hw : ∀ d ∈ tables_1, d.before a0 Z = true) (x0 : Addr) (h0 : Heap) (n0 : Nat) (hEL : EW Z a0 consts_1) {ka : ClassId} {z0 : Int32} (O : Old Z n0 h0) (Va : Arv Z h0 x0 ka .byte (1 : Int32) [(.int z0)] (.int 0)) :
    OwnMetH l Z consts_1 [] (⟨"java/lang/StringLatin1", "newString", "([BII)Ljava/lang/String;"⟩ : MethodName) jdk_43_method_47_code 3 (some (.object "java/lang/String")) [] ({ frames := 0, cells := 2, slots := 4, locals := 0 } : Room) #[(.ref x0), (.int (0 : Int32)), (.int (0 : Int32))] h0 (fun v h L => ∃ a b k, v = some (.ref a) ∧ Fr n0 L ∧ Keep h0 h [] ∧ Exa Z h a "java/lang/String" ∧ Fld Z h a "java/lang/String" "coder" "B" (.int 0) ∧ Fld Z h a "java/lang/String" "value" "[B" (.ref b) ∧ Arv Z h b k .byte (0 : Int32) [] (.int 0)) := by
  refine own_bodyH (plainFor_of_name pn_5) (fun m => ef_ns_0 m x0) ?_
  intro p e s m below meth c s₁ X0 hx hby hml hown hnm hret hlk hZ e0 eh hS hH hxs
  replace hown : (s.setVm s.vm).vm.findClass "java/lang/StringLatin1" = some m.cls := hown
  replace hml : c.maxLocals = 3 := hml
  have N0 := Fr.nil n0
  show Ends p.tables e below _ (s₁.setTop (mkF m 0 #[.val (.ref x0), .val (.int (0 : Int32)), .val (.int (0 : Int32))] []))
  refine own_iloadN X0 hx hby d16_0 rfl rfl ?_
  refine own_if_ne X0 hx hby d16_1 (pcY := 7) (pcN := 4) (by decide) rfl (fun (hc390 : ¬ (0 : Int32) = (0 : Int32)) => False.elim (by exact absurd hc390 (by decide))) (fun (hc390 : (0 : Int32) = (0 : Int32)) => ?_)
  have f392 := (CHr.refl hH)
  refine own_ldcH X0 hx hby hZ hown (hw _ tw_78) (own_satoms hw) e0 hS (Nat.le_refl _) hEL (show ("java/lang/StringLatin1", (151 : Nat)) ∈ consts_1 by decide) f392.1 [] (0 : Int32) (by decide +kernel) (by decide) rfl 0 (by decide) (by decide) (by decide) (by decide) d16_4 rfl (fun b391 T391 h391 k391 c391 j391 X391 e391 E391 hS hk391 hZ hown A391 B391 D391 V391 C391 S391 => ?_)
  have R391 := f392.trans C391
  show Ends p.tables e below _ (T391.setTop (mkF m 6 #[.val (.ref x0), .val (.int (0 : Int32)), .val (.int (0 : Int32))] [(.ref b391)]))
  refine own_retH X391 hx hby hret hlk d16_6 (.ref b391) rfl (Or.inr (Or.inr ⟨rfl, rfl, rfl⟩)) hZ hEL (by rw [show T391.heap = _ from e391, show s.heap = _ from eh]; exact R391) hS (by rw [show T391.heap = _ from e391]; exact hk391) (by decide) (by decide) ?_
  rw [e391]
  have f393 := ((Keep.refl h0 []).ext E391)
  exact ⟨b391, c391, _, rfl, N0, f393, A391, B391, D391, V391⟩
set_option maxRecDepth 65536 in
set_option maxHeartbeats 40000000 in
theorem rmns_1 (l : Launch) (Z : State) (a0 : Array Value) (hw : ∀ d ∈ tables_1, d.before a0 Z = true) (x0 : Addr) (h0 : Heap) (n0 : Nat) {ka : ClassId} {z0 z1 : Int32} (O : Old Z n0 h0) (Va : Arv Z h0 x0 ka .byte (2 : Int32) [(.int z0), (.int z1)] (.int 0)) :
    OwnMet l Z (⟨"java/lang/StringLatin1", "newString", "([BII)Ljava/lang/String;"⟩ : MethodName) jdk_43_method_47_code 3 (some (.object "java/lang/String")) [] ({ frames := 3, cells := 2, slots := 5, locals := 92 } : Room) #[(.ref x0), (.int (0 : Int32)), (.int (1 : Int32))] h0 (fun v h L => ∃ a b k, v = some (.ref a) ∧ Fr n0 L ∧ Keep h0 h [] ∧ Exa Z h a "java/lang/String" ∧ Fld Z h a "java/lang/String" "coder" "B" (.int 0) ∧ Fld Z h a "java/lang/String" "value" "[B" (.ref b) ∧ Arv Z h b k .byte (1 : Int32) [(.int z0)] (.int 0)) := by
  refine own_body (plainFor_of_name pn_5) (fun m => ef_ns_1 m x0) ?_
  intro p e s m below meth c s₁ X0 hx hby hml hown hnm hret hlk hZ e0
  replace hown : s.vm.findClass "java/lang/StringLatin1" = some m.cls := hown
  replace hml : c.maxLocals = 3 := hml
  have N0 := Fr.nil n0
  show Ends p.tables e below _ (s₁.setTop (mkF m 0 #[.val (.ref x0), .val (.int (0 : Int32)), .val (.int (1 : Int32))] []))
  refine own_iloadN X0 hx hby d16_0 rfl rfl ?_
  refine own_if_ne X0 hx hby d16_1 (pcY := 7) (pcN := 4) (by decide) rfl (fun (hc394 : ¬ (1 : Int32) = (0 : Int32)) => ?_) (fun (hc394 : (1 : Int32) = (0 : Int32)) => False.elim (by exact absurd hc394 (by decide)))
  refine own_new X0 hx hby hZ hown (hw _ tw_88) (hw _ tw_5) (hw _ tw_6) e0 (by decide) (by decide) d16_7 rfl (fun T395 h395 b395 X395 e395 g395 E395 A395 D395 => ?_)
  have ge_b395 : n0 ≤ b395 := own_ge O g395
  have sz_b395 : h0.size ≤ b395 := Nat.le_trans (Keep.refl h0 []).1 (Nat.le_of_eq g395.symm)
  have ne_x0_b395 : x0 ≠ b395 := own_lt Va.lt g395
  have F395_value : Fld Z h395 b395 "java/lang/String" "value" "[B" .null := D395 (Or.inr (hw _ tw_20)) (ty := (.array .byte)) (by decide)
  have F395_coder : Fld Z h395 b395 "java/lang/String" "coder" "B" (.int (0 : Int32)) := D395 (Or.inr (hw _ tw_21)) (ty := .byte) (by decide)
  refine own_dup X395 hx hby d16_10 rfl rfl ?_
  refine own_aloadN X395 hx hby d16_11 rfl rfl rfl ?_
  refine own_iloadN X395 hx hby d16_12 rfl rfl ?_
  refine own_iloadN X395 hx hby d16_13 rfl rfl ?_
  refine own_iloadN X395 hx hby d16_14 rfl rfl ?_
  refine own_iadd X395 hx hby d16_15 rfl ?_
  show Ends p.tables e below _ (T395.setTop (mkF m 16 #[.val (.ref x0), .val (.int (0 : Int32)), .val (.int (1 : Int32))] [(.int (1 : Int32)), (.int (0 : Int32)), (.ref x0), (.ref b395), (.ref b395)]))
  have f397 := (O.ext E395)
  have f398 := (Va.ext E395)
  refine own_static X395 hx hby hZ (argsL := [(.ref x0), (.int (0 : Int32)), (.int (1 : Int32))]) (rest := [(.ref b395), (.ref b395)]) hown (hw _ tw_89) (hw _ tw_90) (hw _ tw_91) (hw _ tw_92) (by decide) (rmcopyOfRange_1 l Z a0 hw x0 h395 n0 f397 f398) e395 (by rw [hml]; rfl) pd_9 rfl (by decide) (W := 2) (Nat.le_refl _) (by decide) (by decide) (by decide) d16_16 rfl rfl (fun v396 T396 L396 X396 hQ396 => ?_)
  obtain ⟨b396, k396, rfl, N396q, K396, sq396, gq396, V396⟩ := hQ396
  show Ends p.tables e below _ (T396.setTop (mkF m 19 #[.val (.ref x0), .val (.int (0 : Int32)), .val (.int (1 : Int32))] [(.ref b396), (.ref b395), (.ref b395)]))
  refine own_iconst X396 hx hby d16_19 rfl (0 : Int32) rfl ?_
  have f400 := (A395.keep K396)
  have f401 := (F395_coder.keep K396 nin0)
  have f402 := (F395_value.keep K396 nin0)
  refine own_special X396 hx hby hZ (a := b395) (argsL := [(.ref b396), (.int (0 : Int32))]) (rest := [(.ref b395)]) hown rfl (hw _ tw_107) (hw _ tw_108) (hw _ tw_6) (hw _ tw_109) (by decide) (rmibb l Z a0 hw b395 b396 T396.heap n0 ge_b395 f400 f401 f402) rfl (by rw [hml]; rfl) pd_10 rfl (by decide) (W := 1) (Nat.le_refl _) (by decide) (by decide) (by decide) d16_20 rfl rfl (fun v399 T399 L399 X399 hQ399 => ?_)
  obtain ⟨rfl, N399q, K399, B399, D399⟩ := hQ399
  show Ends p.tables e below _ (T399.setTop (mkF m 23 #[.val (.ref x0), .val (.int (0 : Int32)), .val (.int (1 : Int32))] [(.ref b395)]))
  refine own_ret X399 hx hby hret hlk d16_23 (.ref b395) rfl (Or.inr (Or.inr ⟨rfl, rfl, rfl⟩)) (by decide) (by decide) ?_
  have f403 := ((((Keep.refl h0 []).ext E395).trans K396 all0).trans K399 (allS (Or.inr sz_b395) all0))
  have f404 := (f400.keep K399)
  have f405 := (V396.keep K399 (ninS (Ne.symm (Nat.ne_of_lt (Nat.lt_of_lt_of_le A395.lt sq396))) nin0))
  exact ⟨b395, b396, _, rfl, (Fr.app (Fr.app N0 N396q) N399q), f403, f404, B399, D399, f405⟩
set_option maxRecDepth 65536 in
set_option maxHeartbeats 40000000 in
theorem rmns_2 (l : Launch) (Z : State) (a0 : Array Value) (hw : ∀ d ∈ tables_1, d.before a0 Z = true) (x0 : Addr) (h0 : Heap) (n0 : Nat) {ka : ClassId} {z0 z1 z2 : Int32} (O : Old Z n0 h0) (Va : Arv Z h0 x0 ka .byte (3 : Int32) [(.int z0), (.int z1), (.int z2)] (.int 0)) :
    OwnMet l Z (⟨"java/lang/StringLatin1", "newString", "([BII)Ljava/lang/String;"⟩ : MethodName) jdk_43_method_47_code 3 (some (.object "java/lang/String")) [] ({ frames := 3, cells := 2, slots := 6, locals := 92 } : Room) #[(.ref x0), (.int (0 : Int32)), (.int (2 : Int32))] h0 (fun v h L => ∃ a b k, v = some (.ref a) ∧ Fr n0 L ∧ Keep h0 h [] ∧ Exa Z h a "java/lang/String" ∧ Fld Z h a "java/lang/String" "coder" "B" (.int 0) ∧ Fld Z h a "java/lang/String" "value" "[B" (.ref b) ∧ Arv Z h b k .byte (2 : Int32) [(.int z0), (.int z1)] (.int 0)) := by
  refine own_body (plainFor_of_name pn_5) (fun m => ef_ns_2 m x0) ?_
  intro p e s m below meth c s₁ X0 hx hby hml hown hnm hret hlk hZ e0
  replace hown : s.vm.findClass "java/lang/StringLatin1" = some m.cls := hown
  replace hml : c.maxLocals = 3 := hml
  have N0 := Fr.nil n0
  show Ends p.tables e below _ (s₁.setTop (mkF m 0 #[.val (.ref x0), .val (.int (0 : Int32)), .val (.int (2 : Int32))] []))
  refine own_iloadN X0 hx hby d16_0 rfl rfl ?_
  refine own_if_ne X0 hx hby d16_1 (pcY := 7) (pcN := 4) (by decide) rfl (fun (hc406 : ¬ (2 : Int32) = (0 : Int32)) => ?_) (fun (hc406 : (2 : Int32) = (0 : Int32)) => False.elim (by exact absurd hc406 (by decide)))
  refine own_new X0 hx hby hZ hown (hw _ tw_88) (hw _ tw_5) (hw _ tw_6) e0 (by decide) (by decide) d16_7 rfl (fun T407 h407 b407 X407 e407 g407 E407 A407 D407 => ?_)
  have ge_b407 : n0 ≤ b407 := own_ge O g407
  have sz_b407 : h0.size ≤ b407 := Nat.le_trans (Keep.refl h0 []).1 (Nat.le_of_eq g407.symm)
  have ne_x0_b407 : x0 ≠ b407 := own_lt Va.lt g407
  have F407_value : Fld Z h407 b407 "java/lang/String" "value" "[B" .null := D407 (Or.inr (hw _ tw_20)) (ty := (.array .byte)) (by decide)
  have F407_coder : Fld Z h407 b407 "java/lang/String" "coder" "B" (.int (0 : Int32)) := D407 (Or.inr (hw _ tw_21)) (ty := .byte) (by decide)
  refine own_dup X407 hx hby d16_10 rfl rfl ?_
  refine own_aloadN X407 hx hby d16_11 rfl rfl rfl ?_
  refine own_iloadN X407 hx hby d16_12 rfl rfl ?_
  refine own_iloadN X407 hx hby d16_13 rfl rfl ?_
  refine own_iloadN X407 hx hby d16_14 rfl rfl ?_
  refine own_iadd X407 hx hby d16_15 rfl ?_
  show Ends p.tables e below _ (T407.setTop (mkF m 16 #[.val (.ref x0), .val (.int (0 : Int32)), .val (.int (2 : Int32))] [(.int (2 : Int32)), (.int (0 : Int32)), (.ref x0), (.ref b407), (.ref b407)]))
  have f409 := (O.ext E407)
  have f410 := (Va.ext E407)
  refine own_static X407 hx hby hZ (argsL := [(.ref x0), (.int (0 : Int32)), (.int (2 : Int32))]) (rest := [(.ref b407), (.ref b407)]) hown (hw _ tw_89) (hw _ tw_90) (hw _ tw_91) (hw _ tw_92) (by decide) (rmcopyOfRange_2 l Z a0 hw x0 h407 n0 f409 f410) e407 (by rw [hml]; rfl) pd_9 rfl (by decide) (W := 2) (Nat.le_refl _) (by decide) (by decide) (by decide) d16_16 rfl rfl (fun v408 T408 L408 X408 hQ408 => ?_)
  obtain ⟨b408, k408, rfl, N408q, K408, sq408, gq408, V408⟩ := hQ408
  show Ends p.tables e below _ (T408.setTop (mkF m 19 #[.val (.ref x0), .val (.int (0 : Int32)), .val (.int (2 : Int32))] [(.ref b408), (.ref b407), (.ref b407)]))
  refine own_iconst X408 hx hby d16_19 rfl (0 : Int32) rfl ?_
  have f412 := (A407.keep K408)
  have f413 := (F407_coder.keep K408 nin0)
  have f414 := (F407_value.keep K408 nin0)
  refine own_special X408 hx hby hZ (a := b407) (argsL := [(.ref b408), (.int (0 : Int32))]) (rest := [(.ref b407)]) hown rfl (hw _ tw_107) (hw _ tw_108) (hw _ tw_6) (hw _ tw_109) (by decide) (rmibb l Z a0 hw b407 b408 T408.heap n0 ge_b407 f412 f413 f414) rfl (by rw [hml]; rfl) pd_10 rfl (by decide) (W := 1) (Nat.le_refl _) (by decide) (by decide) (by decide) d16_20 rfl rfl (fun v411 T411 L411 X411 hQ411 => ?_)
  obtain ⟨rfl, N411q, K411, B411, D411⟩ := hQ411
  show Ends p.tables e below _ (T411.setTop (mkF m 23 #[.val (.ref x0), .val (.int (0 : Int32)), .val (.int (2 : Int32))] [(.ref b407)]))
  refine own_ret X411 hx hby hret hlk d16_23 (.ref b407) rfl (Or.inr (Or.inr ⟨rfl, rfl, rfl⟩)) (by decide) (by decide) ?_
  have f415 := ((((Keep.refl h0 []).ext E407).trans K408 all0).trans K411 (allS (Or.inr sz_b407) all0))
  have f416 := (f412.keep K411)
  have f417 := (V408.keep K411 (ninS (Ne.symm (Nat.ne_of_lt (Nat.lt_of_lt_of_le A407.lt sq408))) nin0))
  exact ⟨b407, b408, _, rfl, (Fr.app (Fr.app N0 N408q) N411q), f415, f416, B411, D411, f417⟩
set_option maxRecDepth 65536 in
set_option maxHeartbeats 40000000 in
theorem rmns_3 (l : Launch) (Z : State) (a0 : Array Value) (hw : ∀ d ∈ tables_1, d.before a0 Z = true) (x0 : Addr) (h0 : Heap) (n0 : Nat) {ka : ClassId} {z0 z1 z2 z3 : Int32} (O : Old Z n0 h0) (Va : Arv Z h0 x0 ka .byte (4 : Int32) [(.int z0), (.int z1), (.int z2), (.int z3)] (.int 0)) :
    OwnMet l Z (⟨"java/lang/StringLatin1", "newString", "([BII)Ljava/lang/String;"⟩ : MethodName) jdk_43_method_47_code 3 (some (.object "java/lang/String")) [] ({ frames := 3, cells := 2, slots := 7, locals := 92 } : Room) #[(.ref x0), (.int (0 : Int32)), (.int (3 : Int32))] h0 (fun v h L => ∃ a b k, v = some (.ref a) ∧ Fr n0 L ∧ Keep h0 h [] ∧ Exa Z h a "java/lang/String" ∧ Fld Z h a "java/lang/String" "coder" "B" (.int 0) ∧ Fld Z h a "java/lang/String" "value" "[B" (.ref b) ∧ Arv Z h b k .byte (3 : Int32) [(.int z0), (.int z1), (.int z2)] (.int 0)) := by
  refine own_body (plainFor_of_name pn_5) (fun m => ef_ns_3 m x0) ?_
  intro p e s m below meth c s₁ X0 hx hby hml hown hnm hret hlk hZ e0
  replace hown : s.vm.findClass "java/lang/StringLatin1" = some m.cls := hown
  replace hml : c.maxLocals = 3 := hml
  have N0 := Fr.nil n0
  show Ends p.tables e below _ (s₁.setTop (mkF m 0 #[.val (.ref x0), .val (.int (0 : Int32)), .val (.int (3 : Int32))] []))
  refine own_iloadN X0 hx hby d16_0 rfl rfl ?_
  refine own_if_ne X0 hx hby d16_1 (pcY := 7) (pcN := 4) (by decide) rfl (fun (hc418 : ¬ (3 : Int32) = (0 : Int32)) => ?_) (fun (hc418 : (3 : Int32) = (0 : Int32)) => False.elim (by exact absurd hc418 (by decide)))
  refine own_new X0 hx hby hZ hown (hw _ tw_88) (hw _ tw_5) (hw _ tw_6) e0 (by decide) (by decide) d16_7 rfl (fun T419 h419 b419 X419 e419 g419 E419 A419 D419 => ?_)
  have ge_b419 : n0 ≤ b419 := own_ge O g419
  have sz_b419 : h0.size ≤ b419 := Nat.le_trans (Keep.refl h0 []).1 (Nat.le_of_eq g419.symm)
  have ne_x0_b419 : x0 ≠ b419 := own_lt Va.lt g419
  have F419_value : Fld Z h419 b419 "java/lang/String" "value" "[B" .null := D419 (Or.inr (hw _ tw_20)) (ty := (.array .byte)) (by decide)
  have F419_coder : Fld Z h419 b419 "java/lang/String" "coder" "B" (.int (0 : Int32)) := D419 (Or.inr (hw _ tw_21)) (ty := .byte) (by decide)
  refine own_dup X419 hx hby d16_10 rfl rfl ?_
  refine own_aloadN X419 hx hby d16_11 rfl rfl rfl ?_
  refine own_iloadN X419 hx hby d16_12 rfl rfl ?_
  refine own_iloadN X419 hx hby d16_13 rfl rfl ?_
  refine own_iloadN X419 hx hby d16_14 rfl rfl ?_
  refine own_iadd X419 hx hby d16_15 rfl ?_
  show Ends p.tables e below _ (T419.setTop (mkF m 16 #[.val (.ref x0), .val (.int (0 : Int32)), .val (.int (3 : Int32))] [(.int (3 : Int32)), (.int (0 : Int32)), (.ref x0), (.ref b419), (.ref b419)]))
  have f421 := (O.ext E419)
  have f422 := (Va.ext E419)
  refine own_static X419 hx hby hZ (argsL := [(.ref x0), (.int (0 : Int32)), (.int (3 : Int32))]) (rest := [(.ref b419), (.ref b419)]) hown (hw _ tw_89) (hw _ tw_90) (hw _ tw_91) (hw _ tw_92) (by decide) (rmcopyOfRange_3 l Z a0 hw x0 h419 n0 f421 f422) e419 (by rw [hml]; rfl) pd_9 rfl (by decide) (W := 2) (Nat.le_refl _) (by decide) (by decide) (by decide) d16_16 rfl rfl (fun v420 T420 L420 X420 hQ420 => ?_)
  obtain ⟨b420, k420, rfl, N420q, K420, sq420, gq420, V420⟩ := hQ420
  show Ends p.tables e below _ (T420.setTop (mkF m 19 #[.val (.ref x0), .val (.int (0 : Int32)), .val (.int (3 : Int32))] [(.ref b420), (.ref b419), (.ref b419)]))
  refine own_iconst X420 hx hby d16_19 rfl (0 : Int32) rfl ?_
  have f424 := (A419.keep K420)
  have f425 := (F419_coder.keep K420 nin0)
  have f426 := (F419_value.keep K420 nin0)
  refine own_special X420 hx hby hZ (a := b419) (argsL := [(.ref b420), (.int (0 : Int32))]) (rest := [(.ref b419)]) hown rfl (hw _ tw_107) (hw _ tw_108) (hw _ tw_6) (hw _ tw_109) (by decide) (rmibb l Z a0 hw b419 b420 T420.heap n0 ge_b419 f424 f425 f426) rfl (by rw [hml]; rfl) pd_10 rfl (by decide) (W := 1) (Nat.le_refl _) (by decide) (by decide) (by decide) d16_20 rfl rfl (fun v423 T423 L423 X423 hQ423 => ?_)
  obtain ⟨rfl, N423q, K423, B423, D423⟩ := hQ423
  show Ends p.tables e below _ (T423.setTop (mkF m 23 #[.val (.ref x0), .val (.int (0 : Int32)), .val (.int (3 : Int32))] [(.ref b419)]))
  refine own_ret X423 hx hby hret hlk d16_23 (.ref b419) rfl (Or.inr (Or.inr ⟨rfl, rfl, rfl⟩)) (by decide) (by decide) ?_
  have f427 := ((((Keep.refl h0 []).ext E419).trans K420 all0).trans K423 (allS (Or.inr sz_b419) all0))
  have f428 := (f424.keep K423)
  have f429 := (V420.keep K423 (ninS (Ne.symm (Nat.ne_of_lt (Nat.lt_of_lt_of_le A419.lt sq420))) nin0))
  exact ⟨b419, b420, _, rfl, (Fr.app (Fr.app N0 N420q) N423q), f427, f428, B423, D423, f429⟩
set_option maxRecDepth 65536 in
set_option maxHeartbeats 40000000 in
theorem rmsu_0 (l : Launch) (Z : State) (a0 : Array Value) (hw : ∀ d ∈ tables_1, d.before a0 Z = true) (x0 : Addr) (h0 : Heap) (n0 : Nat) (hEL : EW Z a0 consts_1) {ks : Int32} {fm : Value} (hks : ¬ ks = 0) (hfm : fm.isRef = true) (CS : Sta Z Z.heap "java/lang/String" "COMPACT_STRINGS" "Z" (.int ks)) (FS : Sta Z Z.heap "jdk/internal/util/Preconditions" "SIOOBE_FORMATTER" "Ljava/util/function/BiFunction;" fm) {b1 : Addr} {k1 : ClassId} {z0 : Int32} (O : Old Z n0 h0) (E : Exa Z h0 x0 "java/lang/String") (Fc : Fld Z h0 x0 "java/lang/String" "coder" "B" (.int 0)) (Fv : Fld Z h0 x0 "java/lang/String" "value" "[B" (.ref b1)) (Vb : Arv Z h0 b1 k1 .byte (1 : Int32) [(.int z0)] (.int 0)) :
    OwnMetH l Z consts_1 [] (⟨"java/lang/String", "substring", "(II)Ljava/lang/String;"⟩ : MethodName) jdk_42_method_92_code 5 (some (.object "java/lang/String")) [] ({ frames := 2, cells := 2, slots := 4, locals := 40 } : Room) #[(.ref x0), (.int (0 : Int32)), (.int (0 : Int32))] h0 (fun v h L => ∃ a b k, v = some (.ref a) ∧ Fr n0 L ∧ Keep h0 h [] ∧ Exa Z h a "java/lang/String" ∧ Fld Z h a "java/lang/String" "coder" "B" (.int 0) ∧ Fld Z h a "java/lang/String" "value" "[B" (.ref b) ∧ Arv Z h b k .byte (0 : Int32) [] (.int 0)) := by
  refine own_bodyH (plainFor_of_name pn_0) (fun m => ef_su_0 m x0) ?_
  intro p e s m below meth c s₁ X0 hx hby hml hown hnm hret hlk hZ e0 eh hS hH hxs
  replace hown : (s.setVm s.vm).vm.findClass "java/lang/String" = some m.cls := hown
  replace hml : c.maxLocals = 5 := hml
  have N0 := Fr.nil n0
  show Ends p.tables e below _ (s₁.setTop (mkF m 0 #[.val (.ref x0), .val (.int (0 : Int32)), .val (.int (0 : Int32)), .unset, .unset] []))
  refine own_aloadN X0 hx hby d12_0 rfl rfl rfl ?_
  refine own_virtual X0 hx hby hZ (Cn := "java/lang/String") (a := x0) (argsL := []) (rest := []) hown (hw _ tw_60) (hw _ tw_45) (hw _ tw_47) (hw _ tw_46) (hw _ tw_6) (hw _ tw_48) (by decide) (rmlength_1 l Z a0 hw x0 h0 hks hfm CS FS (O).2 E Fc Fv Vb) E e0 (by rw [hml]; rfl) pd_11 rfl (by decide) (W := 0) (Nat.le_refl _) (by decide) (by decide) (by decide) d12_1 rfl rfl (fun v430 T430 L430 X430 hQ430 => ?_)
  obtain ⟨rfl, rfl, e430⟩ := hQ430
  show Ends p.tables e below _ (T430.setTop (mkF m 4 #[.val (.ref x0), .val (.int (0 : Int32)), .val (.int (0 : Int32)), .unset, .unset] [(.int (1 : Int32))]))
  refine own_istoreN X430 hx hby d12_4 rfl #[.val (.ref x0), .val (.int (0 : Int32)), .val (.int (0 : Int32)), .val (.int (1 : Int32)), .unset] rfl ?_
  refine own_iloadN X430 hx hby d12_5 rfl rfl ?_
  refine own_iloadN X430 hx hby d12_6 rfl rfl ?_
  refine own_iloadN X430 hx hby d12_7 rfl rfl ?_
  refine own_static X430 hx hby hZ (argsL := [(.int (0 : Int32)), (.int (0 : Int32)), (.int (1 : Int32))]) (rest := []) hown (hw _ tw_61) (hw _ tw_62) (hw _ tw_6) (hw _ tw_63) (by decide) (rmcb_0 l Z a0 hw h0 hks hfm CS FS (O).2) e430 (by rw [hml]; rfl) pd_12 rfl (by decide) (W := 0) (Nat.le_refl _) (by decide) (by decide) (by decide) d12_8 rfl rfl (fun v431 T431 L431 X431 hQ431 => ?_)
  obtain ⟨rfl, rfl, e431⟩ := hQ431
  show Ends p.tables e below _ (T431.setTop (mkF m 11 #[.val (.ref x0), .val (.int (0 : Int32)), .val (.int (0 : Int32)), .val (.int (1 : Int32)), .unset] []))
  refine own_iloadN X431 hx hby d12_11 rfl rfl ?_
  refine own_if_ne X431 hx hby d12_12 (pcY := 22) (pcN := 15) (by decide) rfl (fun (hc432 : ¬ (0 : Int32) = (0 : Int32)) => False.elim (by exact absurd hc432 (by decide))) (fun (hc432 : (0 : Int32) = (0 : Int32)) => ?_)
  refine own_iloadN X431 hx hby d12_15 rfl rfl ?_
  refine own_iloadN X431 hx hby d12_16 rfl rfl ?_
  refine own_icmp_ne X431 hx hby d12_17 (pcY := 22) (pcN := 20) (by decide) rfl (fun (hc433 : ¬ (0 : Int32) = (1 : Int32)) => ?_) (fun (hc433 : (0 : Int32) = (1 : Int32)) => False.elim (by exact absurd hc433 (by decide)))
  refine own_iloadN X431 hx hby d12_22 rfl rfl ?_
  refine own_iloadN X431 hx hby d12_23 rfl rfl ?_
  refine own_isub X431 hx hby d12_24 rfl ?_
  show Ends p.tables e below _ (T431.setTop (mkF m 25 #[.val (.ref x0), .val (.int (0 : Int32)), .val (.int (0 : Int32)), .val (.int (1 : Int32)), .unset] [(.int (0 : Int32))]))
  refine own_istore X431 hx hby d12_25 rfl #[.val (.ref x0), .val (.int (0 : Int32)), .val (.int (0 : Int32)), .val (.int (1 : Int32)), .val (.int (0 : Int32))] rfl ?_
  refine own_aloadN X431 hx hby d12_27 rfl rfl rfl ?_
  refine own_virtual X431 hx hby hZ (Cn := "java/lang/String") (a := x0) (argsL := []) (rest := []) hown (hw _ tw_69) (hw _ tw_70) (hw _ tw_72) (hw _ tw_71) (hw _ tw_6) (hw _ tw_73) (by decide) (rmisLatin1_1 l Z a0 hw x0 h0 hks hfm CS FS (O).2 E Fc Fv Vb) E e431 (by rw [hml]; rfl) pd_13 rfl (by decide) (W := 0) (Nat.le_refl _) (by decide) (by decide) (by decide) d12_28 rfl rfl (fun v434 T434 L434 X434 hQ434 => ?_)
  obtain ⟨rfl, rfl, e434⟩ := hQ434
  show Ends p.tables e below _ (T434.setTop (mkF m 31 #[.val (.ref x0), .val (.int (0 : Int32)), .val (.int (0 : Int32)), .val (.int (1 : Int32)), .val (.int (0 : Int32))] [(.int (1 : Int32))]))
  refine own_if_eq X434 hx hby d12_31 (pcY := 47) (pcN := 34) (by decide) rfl (fun (hc435 : (1 : Int32) = (0 : Int32)) => False.elim (by exact absurd hc435 (by decide))) (fun (hc435 : ¬ (1 : Int32) = (0 : Int32)) => ?_)
  refine own_aloadN X434 hx hby d12_34 rfl rfl rfl ?_
  refine own_getfield X434 hx hby hZ hown (host := "") (Or.inl (hw _ tw_24)) Via.refl e434 Fv d12_35 rfl (fun T436 X436 e436 => ?_)
  refine own_iloadN X436 hx hby d12_38 rfl rfl ?_
  refine own_iload X436 hx hby d12_39 rfl rfl ?_
  have f438 := (CHr.refl hH)
  refine own_staticH X436 hx hby hZ (argsL := [(.ref b1), (.int (0 : Int32)), (.int (0 : Int32))]) (rest := []) hown (hw _ tw_74) (hw _ tw_75) (hw _ tw_76) (hw _ tw_77) (by decide) (rmns_0 l Z a0 hw b1 h0 n0 hEL O Vb) e436 hS (Nat.le_refl _) hEL f438.1 (fun _ q => nomatch q) (by rw [hml]; rfl) pd_14 rfl (by decide) (W := 0) (Nat.le_refl _) (by decide) (by decide) (by decide) d12_41 rfl rfl (fun v437 T437 L437 X437 hS hZ hown hR437 hQ437 => ?_)
  obtain ⟨a437, b437, k437, rfl, N437q, K437, A437, B437, D437, V437⟩ := hQ437
  show Ends p.tables e below _ (T437.setTop (mkF m 44 #[.val (.ref x0), .val (.int (0 : Int32)), .val (.int (0 : Int32)), .val (.int (1 : Int32)), .val (.int (0 : Int32))] [(.ref a437)]))
  refine own_goto X437 hx hby d12_44 (pc' := 57) (by decide) ?_
  have f439 := (f438.trans hR437)
  refine own_retH X437 hx hby hret hlk d12_57 (.ref a437) rfl (Or.inr (Or.inr ⟨rfl, rfl, rfl⟩)) hZ hEL (by rw [show T437.heap = _ from rfl, show s.heap = _ from eh]; exact f439) hS (by rw [show T437.heap = _ from rfl]; exact (Nat.le_refl _)) (by decide) (by decide) ?_
  have f440 := ((Keep.refl h0 []).trans K437 all0)
  exact ⟨a437, b437, _, rfl, (Fr.app (Fr.app (Fr.app (Fr.app N0 (Fr.nil _)) (Fr.nil _)) (Fr.nil _)) N437q), f440, A437, B437, D437, V437⟩
set_option maxRecDepth 65536 in
set_option maxHeartbeats 40000000 in
theorem rmsu_1 (l : Launch) (Z : State) (a0 : Array Value) (hw : ∀ d ∈ tables_1, d.before a0 Z = true) (x0 : Addr) (h0 : Heap) (n0 : Nat) {ks : Int32} {fm : Value} (hks : ¬ ks = 0) (hfm : fm.isRef = true) (CS : Sta Z Z.heap "java/lang/String" "COMPACT_STRINGS" "Z" (.int ks)) (FS : Sta Z Z.heap "jdk/internal/util/Preconditions" "SIOOBE_FORMATTER" "Ljava/util/function/BiFunction;" fm) {b1 : Addr} {k1 : ClassId} {z0 z1 : Int32} (O : Old Z n0 h0) (E : Exa Z h0 x0 "java/lang/String") (Fc : Fld Z h0 x0 "java/lang/String" "coder" "B" (.int 0)) (Fv : Fld Z h0 x0 "java/lang/String" "value" "[B" (.ref b1)) (Vb : Arv Z h0 b1 k1 .byte (2 : Int32) [(.int z0), (.int z1)] (.int 0)) :
    OwnMet l Z (⟨"java/lang/String", "substring", "(II)Ljava/lang/String;"⟩ : MethodName) jdk_42_method_92_code 5 (some (.object "java/lang/String")) [] ({ frames := 4, cells := 2, slots := 5, locals := 106 } : Room) #[(.ref x0), (.int (0 : Int32)), (.int (1 : Int32))] h0 (fun v h L => ∃ a b k, v = some (.ref a) ∧ Fr n0 L ∧ Keep h0 h [] ∧ Exa Z h a "java/lang/String" ∧ Fld Z h a "java/lang/String" "coder" "B" (.int 0) ∧ Fld Z h a "java/lang/String" "value" "[B" (.ref b) ∧ Arv Z h b k .byte (1 : Int32) [(.int z0)] (.int 0)) := by
  refine own_body (plainFor_of_name pn_0) (fun m => ef_su_1 m x0) ?_
  intro p e s m below meth c s₁ X0 hx hby hml hown hnm hret hlk hZ e0
  replace hown : s.vm.findClass "java/lang/String" = some m.cls := hown
  replace hml : c.maxLocals = 5 := hml
  have N0 := Fr.nil n0
  show Ends p.tables e below _ (s₁.setTop (mkF m 0 #[.val (.ref x0), .val (.int (0 : Int32)), .val (.int (1 : Int32)), .unset, .unset] []))
  refine own_aloadN X0 hx hby d12_0 rfl rfl rfl ?_
  refine own_virtual X0 hx hby hZ (Cn := "java/lang/String") (a := x0) (argsL := []) (rest := []) hown (hw _ tw_60) (hw _ tw_45) (hw _ tw_47) (hw _ tw_46) (hw _ tw_6) (hw _ tw_48) (by decide) (rmlength_2 l Z a0 hw x0 h0 hks hfm CS FS (O).2 E Fc Fv Vb) E e0 (by rw [hml]; rfl) pd_11 rfl (by decide) (W := 0) (Nat.le_refl _) (by decide) (by decide) (by decide) d12_1 rfl rfl (fun v441 T441 L441 X441 hQ441 => ?_)
  obtain ⟨rfl, rfl, e441⟩ := hQ441
  show Ends p.tables e below _ (T441.setTop (mkF m 4 #[.val (.ref x0), .val (.int (0 : Int32)), .val (.int (1 : Int32)), .unset, .unset] [(.int (2 : Int32))]))
  refine own_istoreN X441 hx hby d12_4 rfl #[.val (.ref x0), .val (.int (0 : Int32)), .val (.int (1 : Int32)), .val (.int (2 : Int32)), .unset] rfl ?_
  refine own_iloadN X441 hx hby d12_5 rfl rfl ?_
  refine own_iloadN X441 hx hby d12_6 rfl rfl ?_
  refine own_iloadN X441 hx hby d12_7 rfl rfl ?_
  refine own_static X441 hx hby hZ (argsL := [(.int (0 : Int32)), (.int (1 : Int32)), (.int (2 : Int32))]) (rest := []) hown (hw _ tw_61) (hw _ tw_62) (hw _ tw_6) (hw _ tw_63) (by decide) (rmcb_1 l Z a0 hw h0 hks hfm CS FS (O).2) e441 (by rw [hml]; rfl) pd_12 rfl (by decide) (W := 0) (Nat.le_refl _) (by decide) (by decide) (by decide) d12_8 rfl rfl (fun v442 T442 L442 X442 hQ442 => ?_)
  obtain ⟨rfl, rfl, e442⟩ := hQ442
  show Ends p.tables e below _ (T442.setTop (mkF m 11 #[.val (.ref x0), .val (.int (0 : Int32)), .val (.int (1 : Int32)), .val (.int (2 : Int32)), .unset] []))
  refine own_iloadN X442 hx hby d12_11 rfl rfl ?_
  refine own_if_ne X442 hx hby d12_12 (pcY := 22) (pcN := 15) (by decide) rfl (fun (hc443 : ¬ (0 : Int32) = (0 : Int32)) => False.elim (by exact absurd hc443 (by decide))) (fun (hc443 : (0 : Int32) = (0 : Int32)) => ?_)
  refine own_iloadN X442 hx hby d12_15 rfl rfl ?_
  refine own_iloadN X442 hx hby d12_16 rfl rfl ?_
  refine own_icmp_ne X442 hx hby d12_17 (pcY := 22) (pcN := 20) (by decide) rfl (fun (hc444 : ¬ (1 : Int32) = (2 : Int32)) => ?_) (fun (hc444 : (1 : Int32) = (2 : Int32)) => False.elim (by exact absurd hc444 (by decide)))
  refine own_iloadN X442 hx hby d12_22 rfl rfl ?_
  refine own_iloadN X442 hx hby d12_23 rfl rfl ?_
  refine own_isub X442 hx hby d12_24 rfl ?_
  show Ends p.tables e below _ (T442.setTop (mkF m 25 #[.val (.ref x0), .val (.int (0 : Int32)), .val (.int (1 : Int32)), .val (.int (2 : Int32)), .unset] [(.int (1 : Int32))]))
  refine own_istore X442 hx hby d12_25 rfl #[.val (.ref x0), .val (.int (0 : Int32)), .val (.int (1 : Int32)), .val (.int (2 : Int32)), .val (.int (1 : Int32))] rfl ?_
  refine own_aloadN X442 hx hby d12_27 rfl rfl rfl ?_
  refine own_virtual X442 hx hby hZ (Cn := "java/lang/String") (a := x0) (argsL := []) (rest := []) hown (hw _ tw_69) (hw _ tw_70) (hw _ tw_72) (hw _ tw_71) (hw _ tw_6) (hw _ tw_73) (by decide) (rmisLatin1_2 l Z a0 hw x0 h0 hks hfm CS FS (O).2 E Fc Fv Vb) E e442 (by rw [hml]; rfl) pd_13 rfl (by decide) (W := 0) (Nat.le_refl _) (by decide) (by decide) (by decide) d12_28 rfl rfl (fun v445 T445 L445 X445 hQ445 => ?_)
  obtain ⟨rfl, rfl, e445⟩ := hQ445
  show Ends p.tables e below _ (T445.setTop (mkF m 31 #[.val (.ref x0), .val (.int (0 : Int32)), .val (.int (1 : Int32)), .val (.int (2 : Int32)), .val (.int (1 : Int32))] [(.int (1 : Int32))]))
  refine own_if_eq X445 hx hby d12_31 (pcY := 47) (pcN := 34) (by decide) rfl (fun (hc446 : (1 : Int32) = (0 : Int32)) => False.elim (by exact absurd hc446 (by decide))) (fun (hc446 : ¬ (1 : Int32) = (0 : Int32)) => ?_)
  refine own_aloadN X445 hx hby d12_34 rfl rfl rfl ?_
  refine own_getfield X445 hx hby hZ hown (host := "") (Or.inl (hw _ tw_24)) Via.refl e445 Fv d12_35 rfl (fun T447 X447 e447 => ?_)
  refine own_iloadN X447 hx hby d12_38 rfl rfl ?_
  refine own_iload X447 hx hby d12_39 rfl rfl ?_
  refine own_static X447 hx hby hZ (argsL := [(.ref b1), (.int (0 : Int32)), (.int (1 : Int32))]) (rest := []) hown (hw _ tw_74) (hw _ tw_75) (hw _ tw_76) (hw _ tw_77) (by decide) (rmns_1 l Z a0 hw b1 h0 n0 O Vb) e447 (by rw [hml]; rfl) pd_14 rfl (by decide) (W := 0) (Nat.le_refl _) (by decide) (by decide) (by decide) d12_41 rfl rfl (fun v448 T448 L448 X448 hQ448 => ?_)
  obtain ⟨a448, b448, k448, rfl, N448q, K448, A448, B448, D448, V448⟩ := hQ448
  show Ends p.tables e below _ (T448.setTop (mkF m 44 #[.val (.ref x0), .val (.int (0 : Int32)), .val (.int (1 : Int32)), .val (.int (2 : Int32)), .val (.int (1 : Int32))] [(.ref a448)]))
  refine own_goto X448 hx hby d12_44 (pc' := 57) (by decide) ?_
  refine own_ret X448 hx hby hret hlk d12_57 (.ref a448) rfl (Or.inr (Or.inr ⟨rfl, rfl, rfl⟩)) (by decide) (by decide) ?_
  have f449 := ((Keep.refl h0 []).trans K448 all0)
  exact ⟨a448, b448, _, rfl, (Fr.app (Fr.app (Fr.app (Fr.app N0 (Fr.nil _)) (Fr.nil _)) (Fr.nil _)) N448q), f449, A448, B448, D448, V448⟩
set_option maxRecDepth 65536 in
set_option maxHeartbeats 40000000 in
theorem rmsu_2 (l : Launch) (Z : State) (a0 : Array Value) (hw : ∀ d ∈ tables_1, d.before a0 Z = true) (x0 : Addr) (h0 : Heap) (n0 : Nat) {ks : Int32} {fm : Value} (hks : ¬ ks = 0) (hfm : fm.isRef = true) (CS : Sta Z Z.heap "java/lang/String" "COMPACT_STRINGS" "Z" (.int ks)) (FS : Sta Z Z.heap "jdk/internal/util/Preconditions" "SIOOBE_FORMATTER" "Ljava/util/function/BiFunction;" fm) {b1 : Addr} {k1 : ClassId} {z0 z1 z2 : Int32} (O : Old Z n0 h0) (E : Exa Z h0 x0 "java/lang/String") (Fc : Fld Z h0 x0 "java/lang/String" "coder" "B" (.int 0)) (Fv : Fld Z h0 x0 "java/lang/String" "value" "[B" (.ref b1)) (Vb : Arv Z h0 b1 k1 .byte (3 : Int32) [(.int z0), (.int z1), (.int z2)] (.int 0)) :
    OwnMet l Z (⟨"java/lang/String", "substring", "(II)Ljava/lang/String;"⟩ : MethodName) jdk_42_method_92_code 5 (some (.object "java/lang/String")) [] ({ frames := 4, cells := 2, slots := 6, locals := 106 } : Room) #[(.ref x0), (.int (0 : Int32)), (.int (2 : Int32))] h0 (fun v h L => ∃ a b k, v = some (.ref a) ∧ Fr n0 L ∧ Keep h0 h [] ∧ Exa Z h a "java/lang/String" ∧ Fld Z h a "java/lang/String" "coder" "B" (.int 0) ∧ Fld Z h a "java/lang/String" "value" "[B" (.ref b) ∧ Arv Z h b k .byte (2 : Int32) [(.int z0), (.int z1)] (.int 0)) := by
  refine own_body (plainFor_of_name pn_0) (fun m => ef_su_2 m x0) ?_
  intro p e s m below meth c s₁ X0 hx hby hml hown hnm hret hlk hZ e0
  replace hown : s.vm.findClass "java/lang/String" = some m.cls := hown
  replace hml : c.maxLocals = 5 := hml
  have N0 := Fr.nil n0
  show Ends p.tables e below _ (s₁.setTop (mkF m 0 #[.val (.ref x0), .val (.int (0 : Int32)), .val (.int (2 : Int32)), .unset, .unset] []))
  refine own_aloadN X0 hx hby d12_0 rfl rfl rfl ?_
  refine own_virtual X0 hx hby hZ (Cn := "java/lang/String") (a := x0) (argsL := []) (rest := []) hown (hw _ tw_60) (hw _ tw_45) (hw _ tw_47) (hw _ tw_46) (hw _ tw_6) (hw _ tw_48) (by decide) (rmlength_3 l Z a0 hw x0 h0 hks hfm CS FS (O).2 E Fc Fv Vb) E e0 (by rw [hml]; rfl) pd_11 rfl (by decide) (W := 0) (Nat.le_refl _) (by decide) (by decide) (by decide) d12_1 rfl rfl (fun v450 T450 L450 X450 hQ450 => ?_)
  obtain ⟨rfl, rfl, e450⟩ := hQ450
  show Ends p.tables e below _ (T450.setTop (mkF m 4 #[.val (.ref x0), .val (.int (0 : Int32)), .val (.int (2 : Int32)), .unset, .unset] [(.int (3 : Int32))]))
  refine own_istoreN X450 hx hby d12_4 rfl #[.val (.ref x0), .val (.int (0 : Int32)), .val (.int (2 : Int32)), .val (.int (3 : Int32)), .unset] rfl ?_
  refine own_iloadN X450 hx hby d12_5 rfl rfl ?_
  refine own_iloadN X450 hx hby d12_6 rfl rfl ?_
  refine own_iloadN X450 hx hby d12_7 rfl rfl ?_
  refine own_static X450 hx hby hZ (argsL := [(.int (0 : Int32)), (.int (2 : Int32)), (.int (3 : Int32))]) (rest := []) hown (hw _ tw_61) (hw _ tw_62) (hw _ tw_6) (hw _ tw_63) (by decide) (rmcb_2 l Z a0 hw h0 hks hfm CS FS (O).2) e450 (by rw [hml]; rfl) pd_12 rfl (by decide) (W := 0) (Nat.le_refl _) (by decide) (by decide) (by decide) d12_8 rfl rfl (fun v451 T451 L451 X451 hQ451 => ?_)
  obtain ⟨rfl, rfl, e451⟩ := hQ451
  show Ends p.tables e below _ (T451.setTop (mkF m 11 #[.val (.ref x0), .val (.int (0 : Int32)), .val (.int (2 : Int32)), .val (.int (3 : Int32)), .unset] []))
  refine own_iloadN X451 hx hby d12_11 rfl rfl ?_
  refine own_if_ne X451 hx hby d12_12 (pcY := 22) (pcN := 15) (by decide) rfl (fun (hc452 : ¬ (0 : Int32) = (0 : Int32)) => False.elim (by exact absurd hc452 (by decide))) (fun (hc452 : (0 : Int32) = (0 : Int32)) => ?_)
  refine own_iloadN X451 hx hby d12_15 rfl rfl ?_
  refine own_iloadN X451 hx hby d12_16 rfl rfl ?_
  refine own_icmp_ne X451 hx hby d12_17 (pcY := 22) (pcN := 20) (by decide) rfl (fun (hc453 : ¬ (2 : Int32) = (3 : Int32)) => ?_) (fun (hc453 : (2 : Int32) = (3 : Int32)) => False.elim (by exact absurd hc453 (by decide)))
  refine own_iloadN X451 hx hby d12_22 rfl rfl ?_
  refine own_iloadN X451 hx hby d12_23 rfl rfl ?_
  refine own_isub X451 hx hby d12_24 rfl ?_
  show Ends p.tables e below _ (T451.setTop (mkF m 25 #[.val (.ref x0), .val (.int (0 : Int32)), .val (.int (2 : Int32)), .val (.int (3 : Int32)), .unset] [(.int (2 : Int32))]))
  refine own_istore X451 hx hby d12_25 rfl #[.val (.ref x0), .val (.int (0 : Int32)), .val (.int (2 : Int32)), .val (.int (3 : Int32)), .val (.int (2 : Int32))] rfl ?_
  refine own_aloadN X451 hx hby d12_27 rfl rfl rfl ?_
  refine own_virtual X451 hx hby hZ (Cn := "java/lang/String") (a := x0) (argsL := []) (rest := []) hown (hw _ tw_69) (hw _ tw_70) (hw _ tw_72) (hw _ tw_71) (hw _ tw_6) (hw _ tw_73) (by decide) (rmisLatin1_3 l Z a0 hw x0 h0 hks hfm CS FS (O).2 E Fc Fv Vb) E e451 (by rw [hml]; rfl) pd_13 rfl (by decide) (W := 0) (Nat.le_refl _) (by decide) (by decide) (by decide) d12_28 rfl rfl (fun v454 T454 L454 X454 hQ454 => ?_)
  obtain ⟨rfl, rfl, e454⟩ := hQ454
  show Ends p.tables e below _ (T454.setTop (mkF m 31 #[.val (.ref x0), .val (.int (0 : Int32)), .val (.int (2 : Int32)), .val (.int (3 : Int32)), .val (.int (2 : Int32))] [(.int (1 : Int32))]))
  refine own_if_eq X454 hx hby d12_31 (pcY := 47) (pcN := 34) (by decide) rfl (fun (hc455 : (1 : Int32) = (0 : Int32)) => False.elim (by exact absurd hc455 (by decide))) (fun (hc455 : ¬ (1 : Int32) = (0 : Int32)) => ?_)
  refine own_aloadN X454 hx hby d12_34 rfl rfl rfl ?_
  refine own_getfield X454 hx hby hZ hown (host := "") (Or.inl (hw _ tw_24)) Via.refl e454 Fv d12_35 rfl (fun T456 X456 e456 => ?_)
  refine own_iloadN X456 hx hby d12_38 rfl rfl ?_
  refine own_iload X456 hx hby d12_39 rfl rfl ?_
  refine own_static X456 hx hby hZ (argsL := [(.ref b1), (.int (0 : Int32)), (.int (2 : Int32))]) (rest := []) hown (hw _ tw_74) (hw _ tw_75) (hw _ tw_76) (hw _ tw_77) (by decide) (rmns_2 l Z a0 hw b1 h0 n0 O Vb) e456 (by rw [hml]; rfl) pd_14 rfl (by decide) (W := 0) (Nat.le_refl _) (by decide) (by decide) (by decide) d12_41 rfl rfl (fun v457 T457 L457 X457 hQ457 => ?_)
  obtain ⟨a457, b457, k457, rfl, N457q, K457, A457, B457, D457, V457⟩ := hQ457
  show Ends p.tables e below _ (T457.setTop (mkF m 44 #[.val (.ref x0), .val (.int (0 : Int32)), .val (.int (2 : Int32)), .val (.int (3 : Int32)), .val (.int (2 : Int32))] [(.ref a457)]))
  refine own_goto X457 hx hby d12_44 (pc' := 57) (by decide) ?_
  refine own_ret X457 hx hby hret hlk d12_57 (.ref a457) rfl (Or.inr (Or.inr ⟨rfl, rfl, rfl⟩)) (by decide) (by decide) ?_
  have f458 := ((Keep.refl h0 []).trans K457 all0)
  exact ⟨a457, b457, _, rfl, (Fr.app (Fr.app (Fr.app (Fr.app N0 (Fr.nil _)) (Fr.nil _)) (Fr.nil _)) N457q), f458, A457, B457, D457, V457⟩
set_option maxRecDepth 65536 in
set_option maxHeartbeats 40000000 in
theorem rmsu_3 (l : Launch) (Z : State) (a0 : Array Value) (hw : ∀ d ∈ tables_1, d.before a0 Z = true) (x0 : Addr) (h0 : Heap) (n0 : Nat) {ks : Int32} {fm : Value} (hks : ¬ ks = 0) (hfm : fm.isRef = true) (CS : Sta Z Z.heap "java/lang/String" "COMPACT_STRINGS" "Z" (.int ks)) (FS : Sta Z Z.heap "jdk/internal/util/Preconditions" "SIOOBE_FORMATTER" "Ljava/util/function/BiFunction;" fm) {b1 : Addr} {k1 : ClassId} {z0 z1 z2 z3 : Int32} (O : Old Z n0 h0) (E : Exa Z h0 x0 "java/lang/String") (Fc : Fld Z h0 x0 "java/lang/String" "coder" "B" (.int 0)) (Fv : Fld Z h0 x0 "java/lang/String" "value" "[B" (.ref b1)) (Vb : Arv Z h0 b1 k1 .byte (4 : Int32) [(.int z0), (.int z1), (.int z2), (.int z3)] (.int 0)) :
    OwnMet l Z (⟨"java/lang/String", "substring", "(II)Ljava/lang/String;"⟩ : MethodName) jdk_42_method_92_code 5 (some (.object "java/lang/String")) [] ({ frames := 4, cells := 2, slots := 7, locals := 106 } : Room) #[(.ref x0), (.int (0 : Int32)), (.int (3 : Int32))] h0 (fun v h L => ∃ a b k, v = some (.ref a) ∧ Fr n0 L ∧ Keep h0 h [] ∧ Exa Z h a "java/lang/String" ∧ Fld Z h a "java/lang/String" "coder" "B" (.int 0) ∧ Fld Z h a "java/lang/String" "value" "[B" (.ref b) ∧ Arv Z h b k .byte (3 : Int32) [(.int z0), (.int z1), (.int z2)] (.int 0)) := by
  refine own_body (plainFor_of_name pn_0) (fun m => ef_su_3 m x0) ?_
  intro p e s m below meth c s₁ X0 hx hby hml hown hnm hret hlk hZ e0
  replace hown : s.vm.findClass "java/lang/String" = some m.cls := hown
  replace hml : c.maxLocals = 5 := hml
  have N0 := Fr.nil n0
  show Ends p.tables e below _ (s₁.setTop (mkF m 0 #[.val (.ref x0), .val (.int (0 : Int32)), .val (.int (3 : Int32)), .unset, .unset] []))
  refine own_aloadN X0 hx hby d12_0 rfl rfl rfl ?_
  refine own_virtual X0 hx hby hZ (Cn := "java/lang/String") (a := x0) (argsL := []) (rest := []) hown (hw _ tw_60) (hw _ tw_45) (hw _ tw_47) (hw _ tw_46) (hw _ tw_6) (hw _ tw_48) (by decide) (rmlength_4 l Z a0 hw x0 h0 hks hfm CS FS (O).2 E Fc Fv Vb) E e0 (by rw [hml]; rfl) pd_11 rfl (by decide) (W := 0) (Nat.le_refl _) (by decide) (by decide) (by decide) d12_1 rfl rfl (fun v459 T459 L459 X459 hQ459 => ?_)
  obtain ⟨rfl, rfl, e459⟩ := hQ459
  show Ends p.tables e below _ (T459.setTop (mkF m 4 #[.val (.ref x0), .val (.int (0 : Int32)), .val (.int (3 : Int32)), .unset, .unset] [(.int (4 : Int32))]))
  refine own_istoreN X459 hx hby d12_4 rfl #[.val (.ref x0), .val (.int (0 : Int32)), .val (.int (3 : Int32)), .val (.int (4 : Int32)), .unset] rfl ?_
  refine own_iloadN X459 hx hby d12_5 rfl rfl ?_
  refine own_iloadN X459 hx hby d12_6 rfl rfl ?_
  refine own_iloadN X459 hx hby d12_7 rfl rfl ?_
  refine own_static X459 hx hby hZ (argsL := [(.int (0 : Int32)), (.int (3 : Int32)), (.int (4 : Int32))]) (rest := []) hown (hw _ tw_61) (hw _ tw_62) (hw _ tw_6) (hw _ tw_63) (by decide) (rmcb_3 l Z a0 hw h0 hks hfm CS FS (O).2) e459 (by rw [hml]; rfl) pd_12 rfl (by decide) (W := 0) (Nat.le_refl _) (by decide) (by decide) (by decide) d12_8 rfl rfl (fun v460 T460 L460 X460 hQ460 => ?_)
  obtain ⟨rfl, rfl, e460⟩ := hQ460
  show Ends p.tables e below _ (T460.setTop (mkF m 11 #[.val (.ref x0), .val (.int (0 : Int32)), .val (.int (3 : Int32)), .val (.int (4 : Int32)), .unset] []))
  refine own_iloadN X460 hx hby d12_11 rfl rfl ?_
  refine own_if_ne X460 hx hby d12_12 (pcY := 22) (pcN := 15) (by decide) rfl (fun (hc461 : ¬ (0 : Int32) = (0 : Int32)) => False.elim (by exact absurd hc461 (by decide))) (fun (hc461 : (0 : Int32) = (0 : Int32)) => ?_)
  refine own_iloadN X460 hx hby d12_15 rfl rfl ?_
  refine own_iloadN X460 hx hby d12_16 rfl rfl ?_
  refine own_icmp_ne X460 hx hby d12_17 (pcY := 22) (pcN := 20) (by decide) rfl (fun (hc462 : ¬ (3 : Int32) = (4 : Int32)) => ?_) (fun (hc462 : (3 : Int32) = (4 : Int32)) => False.elim (by exact absurd hc462 (by decide)))
  refine own_iloadN X460 hx hby d12_22 rfl rfl ?_
  refine own_iloadN X460 hx hby d12_23 rfl rfl ?_
  refine own_isub X460 hx hby d12_24 rfl ?_
  show Ends p.tables e below _ (T460.setTop (mkF m 25 #[.val (.ref x0), .val (.int (0 : Int32)), .val (.int (3 : Int32)), .val (.int (4 : Int32)), .unset] [(.int (3 : Int32))]))
  refine own_istore X460 hx hby d12_25 rfl #[.val (.ref x0), .val (.int (0 : Int32)), .val (.int (3 : Int32)), .val (.int (4 : Int32)), .val (.int (3 : Int32))] rfl ?_
  refine own_aloadN X460 hx hby d12_27 rfl rfl rfl ?_
  refine own_virtual X460 hx hby hZ (Cn := "java/lang/String") (a := x0) (argsL := []) (rest := []) hown (hw _ tw_69) (hw _ tw_70) (hw _ tw_72) (hw _ tw_71) (hw _ tw_6) (hw _ tw_73) (by decide) (rmisLatin1_4 l Z a0 hw x0 h0 hks hfm CS FS (O).2 E Fc Fv Vb) E e460 (by rw [hml]; rfl) pd_13 rfl (by decide) (W := 0) (Nat.le_refl _) (by decide) (by decide) (by decide) d12_28 rfl rfl (fun v463 T463 L463 X463 hQ463 => ?_)
  obtain ⟨rfl, rfl, e463⟩ := hQ463
  show Ends p.tables e below _ (T463.setTop (mkF m 31 #[.val (.ref x0), .val (.int (0 : Int32)), .val (.int (3 : Int32)), .val (.int (4 : Int32)), .val (.int (3 : Int32))] [(.int (1 : Int32))]))
  refine own_if_eq X463 hx hby d12_31 (pcY := 47) (pcN := 34) (by decide) rfl (fun (hc464 : (1 : Int32) = (0 : Int32)) => False.elim (by exact absurd hc464 (by decide))) (fun (hc464 : ¬ (1 : Int32) = (0 : Int32)) => ?_)
  refine own_aloadN X463 hx hby d12_34 rfl rfl rfl ?_
  refine own_getfield X463 hx hby hZ hown (host := "") (Or.inl (hw _ tw_24)) Via.refl e463 Fv d12_35 rfl (fun T465 X465 e465 => ?_)
  refine own_iloadN X465 hx hby d12_38 rfl rfl ?_
  refine own_iload X465 hx hby d12_39 rfl rfl ?_
  refine own_static X465 hx hby hZ (argsL := [(.ref b1), (.int (0 : Int32)), (.int (3 : Int32))]) (rest := []) hown (hw _ tw_74) (hw _ tw_75) (hw _ tw_76) (hw _ tw_77) (by decide) (rmns_3 l Z a0 hw b1 h0 n0 O Vb) e465 (by rw [hml]; rfl) pd_14 rfl (by decide) (W := 0) (Nat.le_refl _) (by decide) (by decide) (by decide) d12_41 rfl rfl (fun v466 T466 L466 X466 hQ466 => ?_)
  obtain ⟨a466, b466, k466, rfl, N466q, K466, A466, B466, D466, V466⟩ := hQ466
  show Ends p.tables e below _ (T466.setTop (mkF m 44 #[.val (.ref x0), .val (.int (0 : Int32)), .val (.int (3 : Int32)), .val (.int (4 : Int32)), .val (.int (3 : Int32))] [(.ref a466)]))
  refine own_goto X466 hx hby d12_44 (pc' := 57) (by decide) ?_
  refine own_ret X466 hx hby hret hlk d12_57 (.ref a466) rfl (Or.inr (Or.inr ⟨rfl, rfl, rfl⟩)) (by decide) (by decide) ?_
  have f467 := ((Keep.refl h0 []).trans K466 all0)
  exact ⟨a466, b466, _, rfl, (Fr.app (Fr.app (Fr.app (Fr.app N0 (Fr.nil _)) (Fr.nil _)) (Fr.nil _)) N466q), f467, A466, B466, D466, V466⟩
set_option maxRecDepth 65536 in
set_option maxHeartbeats 40000000 in
theorem rmdi_0 (l : Launch) (Z : State) (a0 : Array Value) (hw : ∀ d ∈ tables_1, d.before a0 Z = true) (x0 : Addr) (h0 : Heap) (n0 : Nat) (hEL : EW Z a0 consts_1) {ks : Int32} {fm : Value} (hks : ¬ ks = 0) (hfm : fm.isRef = true) (CS : Sta Z Z.heap "java/lang/String" "COMPACT_STRINGS" "Z" (.int ks)) (FS : Sta Z Z.heap "jdk/internal/util/Preconditions" "SIOOBE_FORMATTER" "Ljava/util/function/BiFunction;" fm) {b1 : Addr} {k1 : ClassId} {z0 : Int32} (O : Old Z n0 h0) (E : Exa Z h0 x0 "java/lang/String") (Fc : Fld Z h0 x0 "java/lang/String" "coder" "B" (.int 0)) (Fv : Fld Z h0 x0 "java/lang/String" "value" "[B" (.ref b1)) (Vb : Arv Z h0 b1 k1 .byte (1 : Int32) [(.int z0)] (.int 0)) :
    OwnMetH l Z consts_1 [] (⟨"com/example/portunus/portunus/io/Invalidation", "directoryOf", "(Ljava/lang/String;)Ljava/lang/String;"⟩ : MethodName) prog_40_method_4_code 1 (some (.object "java/lang/String")) [] ({ frames := 3, cells := 4, slots := 12, locals := 60 } : Room) #[(.ref x0)] h0 (fun v h L => ∃ a b k, v = some (.ref a) ∧ Fr n0 L ∧ Keep h0 h [] ∧ Exa Z h a "java/lang/String" ∧ Fld Z h a "java/lang/String" "coder" "B" (.int 0) ∧ Fld Z h a "java/lang/String" "value" "[B" (.ref b) ∧ Arv Z h b k .byte (0 : Int32) [] (.int 0)) := by
  refine own_bodyH (plainFor_of_name pn_6) (fun m => ef_di_0 m x0) ?_
  intro p e s m below meth c s₁ X0 hx hby hml hown hnm hret hlk hZ e0 eh hS hH hxs
  replace hown : (s.setVm s.vm).vm.findClass "com/example/portunus/portunus/io/Invalidation" = some m.cls := hown
  replace hml : c.maxLocals = 1 := hml
  have N0 := Fr.nil n0
  show Ends p.tables e below _ (s₁.setTop (mkF m 0 #[.val (.ref x0)] []))
  refine own_aloadN X0 hx hby d9_0 rfl rfl rfl ?_
  refine own_iconst X0 hx hby d9_1 rfl (0 : Int32) rfl ?_
  refine own_aloadN X0 hx hby d9_2 rfl rfl rfl ?_
  refine own_virtual X0 hx hby hZ (Cn := "java/lang/String") (a := x0) (argsL := []) (rest := [(.int (0 : Int32)), (.ref x0)]) hown (hw _ tw_44) (hw _ tw_45) (hw _ tw_47) (hw _ tw_46) (hw _ tw_6) (hw _ tw_48) (by decide) (rmlength_1 l Z a0 hw x0 h0 hks hfm CS FS (O).2 E Fc Fv Vb) E e0 (by rw [hml]; rfl) pd_11 rfl (by decide) (W := 2) (Nat.le_refl _) (by decide) (by decide) (by decide) d9_3 rfl rfl (fun v468 T468 L468 X468 hQ468 => ?_)
  obtain ⟨rfl, rfl, e468⟩ := hQ468
  show Ends p.tables e below _ (T468.setTop (mkF m 6 #[.val (.ref x0)] [(.int (1 : Int32)), (.int (0 : Int32)), (.ref x0)]))
  have f470 := (CHr.refl hH)
  refine own_ldcH X468 hx hby hZ hown (hw _ tw_54) (own_satoms hw) e468 hS (Nat.le_refl _) hEL (show ("com/example/portunus/portunus/io/Invalidation", (21 : Nat)) ∈ consts_1 by decide) f470.1 [(.int (47 : Int32))] (1 : Int32) (by decide +kernel) (by decide) rfl 4 (by decide) (by decide) (by decide) (by decide) d9_6 rfl (fun b469 T469 h469 k469 c469 j469 X469 e469 E469 hS hk469 hZ hown A469 B469 D469 V469 C469 S469 => ?_)
  have R469 := f470.trans C469
  show Ends p.tables e below _ (T469.setTop (mkF m 8 #[.val (.ref x0)] [(.ref b469), (.int (1 : Int32)), (.int (0 : Int32)), (.ref x0)]))
  have f472 := (O.ext E469)
  refine own_virtual X469 hx hby hZ (Cn := "java/lang/String") (a := b469) (argsL := []) (rest := [(.int (1 : Int32)), (.int (0 : Int32)), (.ref x0)]) hown (hw _ tw_44) (hw _ tw_45) (hw _ tw_47) (hw _ tw_46) (hw _ tw_6) (hw _ tw_48) (by decide) (rmlength_1 l Z a0 hw b469 h469 hks hfm CS FS (f472).2 A469 B469 D469 V469) A469 e469 (by rw [hml]; rfl) pd_11 rfl (by decide) (W := 3) (Nat.le_refl _) (by decide) (by decide) (by decide) d9_8 rfl rfl (fun v471 T471 L471 X471 hQ471 => ?_)
  obtain ⟨rfl, rfl, e471⟩ := hQ471
  show Ends p.tables e below _ (T471.setTop (mkF m 11 #[.val (.ref x0)] [(.int (1 : Int32)), (.int (1 : Int32)), (.int (0 : Int32)), (.ref x0)]))
  refine own_isub X471 hx hby d9_11 rfl ?_
  show Ends p.tables e below _ (T471.setTop (mkF m 12 #[.val (.ref x0)] [(.int (0 : Int32)), (.int (0 : Int32)), (.ref x0)]))
  have f474 := (E.ext E469)
  have f475 := (Fc.ext E469)
  have f476 := (Fv.ext E469)
  have f477 := (Vb.ext E469)
  refine own_virtualH X471 hx hby hZ (Cn := "java/lang/String") (a := x0) (argsL := [(.int (0 : Int32)), (.int (0 : Int32))]) (rest := []) hown (hw _ tw_55) (hw _ tw_56) (hw _ tw_58) (hw _ tw_57) (hw _ tw_6) (hw _ tw_59) (by decide) (rmsu_0 l Z a0 hw x0 h469 n0 hEL hks hfm CS FS f472 f474 f475 f476 f477) f474 e471 hS hk469 hEL R469.1 (fun _ q => nomatch q) (by rw [hml]; rfl) pd_15 rfl (by decide) (W := 0) (Nat.le_refl _) (by decide) (by decide) (by decide) d9_12 rfl rfl (fun v473 T473 L473 X473 hS hZ hown hR473 hQ473 => ?_)
  obtain ⟨a473, b473, k473, rfl, N473q, K473, A473, B473, D473, V473⟩ := hQ473
  show Ends p.tables e below _ (T473.setTop (mkF m 15 #[.val (.ref x0)] [(.ref a473)]))
  have f478 := (R469.trans hR473)
  refine own_retH X473 hx hby hret hlk d9_15 (.ref a473) rfl (Or.inr (Or.inr ⟨rfl, rfl, rfl⟩)) hZ hEL (by rw [show T473.heap = _ from rfl, show s.heap = _ from eh]; exact f478) hS (by rw [show T473.heap = _ from rfl]; exact (Nat.le_refl _)) (by decide) (by decide) ?_
  have f479 := (((Keep.refl h0 []).ext E469).trans K473 all0)
  exact ⟨a473, b473, _, rfl, (Fr.app (Fr.app (Fr.app N0 (Fr.nil _)) (Fr.nil _)) N473q), f479, A473, B473, D473, V473⟩
set_option maxRecDepth 65536 in
set_option maxHeartbeats 40000000 in
theorem rmdi_1 (l : Launch) (Z : State) (a0 : Array Value) (hw : ∀ d ∈ tables_1, d.before a0 Z = true) (x0 : Addr) (h0 : Heap) (n0 : Nat) (hEL : EW Z a0 consts_1) {ks : Int32} {fm : Value} (hks : ¬ ks = 0) (hfm : fm.isRef = true) (CS : Sta Z Z.heap "java/lang/String" "COMPACT_STRINGS" "Z" (.int ks)) (FS : Sta Z Z.heap "jdk/internal/util/Preconditions" "SIOOBE_FORMATTER" "Ljava/util/function/BiFunction;" fm) {b1 : Addr} {k1 : ClassId} {z0 z1 : Int32} (O : Old Z n0 h0) (E : Exa Z h0 x0 "java/lang/String") (Fc : Fld Z h0 x0 "java/lang/String" "coder" "B" (.int 0)) (Fv : Fld Z h0 x0 "java/lang/String" "value" "[B" (.ref b1)) (Vb : Arv Z h0 b1 k1 .byte (2 : Int32) [(.int z0), (.int z1)] (.int 0)) :
    OwnMetH l Z consts_1 [] (⟨"com/example/portunus/portunus/io/Invalidation", "directoryOf", "(Ljava/lang/String;)Ljava/lang/String;"⟩ : MethodName) prog_40_method_4_code 1 (some (.object "java/lang/String")) [] ({ frames := 5, cells := 4, slots := 13, locals := 122 } : Room) #[(.ref x0)] h0 (fun v h L => ∃ a b k, v = some (.ref a) ∧ Fr n0 L ∧ Keep h0 h [] ∧ Exa Z h a "java/lang/String" ∧ Fld Z h a "java/lang/String" "coder" "B" (.int 0) ∧ Fld Z h a "java/lang/String" "value" "[B" (.ref b) ∧ Arv Z h b k .byte (1 : Int32) [(.int z0)] (.int 0)) := by
  refine own_bodyH (plainFor_of_name pn_6) (fun m => ef_di_1 m x0) ?_
  intro p e s m below meth c s₁ X0 hx hby hml hown hnm hret hlk hZ e0 eh hS hH hxs
  replace hown : (s.setVm s.vm).vm.findClass "com/example/portunus/portunus/io/Invalidation" = some m.cls := hown
  replace hml : c.maxLocals = 1 := hml
  have N0 := Fr.nil n0
  show Ends p.tables e below _ (s₁.setTop (mkF m 0 #[.val (.ref x0)] []))
  refine own_aloadN X0 hx hby d9_0 rfl rfl rfl ?_
  refine own_iconst X0 hx hby d9_1 rfl (0 : Int32) rfl ?_
  refine own_aloadN X0 hx hby d9_2 rfl rfl rfl ?_
  refine own_virtual X0 hx hby hZ (Cn := "java/lang/String") (a := x0) (argsL := []) (rest := [(.int (0 : Int32)), (.ref x0)]) hown (hw _ tw_44) (hw _ tw_45) (hw _ tw_47) (hw _ tw_46) (hw _ tw_6) (hw _ tw_48) (by decide) (rmlength_2 l Z a0 hw x0 h0 hks hfm CS FS (O).2 E Fc Fv Vb) E e0 (by rw [hml]; rfl) pd_11 rfl (by decide) (W := 2) (Nat.le_refl _) (by decide) (by decide) (by decide) d9_3 rfl rfl (fun v480 T480 L480 X480 hQ480 => ?_)
  obtain ⟨rfl, rfl, e480⟩ := hQ480
  show Ends p.tables e below _ (T480.setTop (mkF m 6 #[.val (.ref x0)] [(.int (2 : Int32)), (.int (0 : Int32)), (.ref x0)]))
  have f482 := (CHr.refl hH)
  refine own_ldcH X480 hx hby hZ hown (hw _ tw_54) (own_satoms hw) e480 hS (Nat.le_refl _) hEL (show ("com/example/portunus/portunus/io/Invalidation", (21 : Nat)) ∈ consts_1 by decide) f482.1 [(.int (47 : Int32))] (1 : Int32) (by decide +kernel) (by decide) rfl 4 (by decide) (by decide) (by decide) (by decide) d9_6 rfl (fun b481 T481 h481 k481 c481 j481 X481 e481 E481 hS hk481 hZ hown A481 B481 D481 V481 C481 S481 => ?_)
  have R481 := f482.trans C481
  show Ends p.tables e below _ (T481.setTop (mkF m 8 #[.val (.ref x0)] [(.ref b481), (.int (2 : Int32)), (.int (0 : Int32)), (.ref x0)]))
  have f484 := (O.ext E481)
  refine own_virtual X481 hx hby hZ (Cn := "java/lang/String") (a := b481) (argsL := []) (rest := [(.int (2 : Int32)), (.int (0 : Int32)), (.ref x0)]) hown (hw _ tw_44) (hw _ tw_45) (hw _ tw_47) (hw _ tw_46) (hw _ tw_6) (hw _ tw_48) (by decide) (rmlength_1 l Z a0 hw b481 h481 hks hfm CS FS (f484).2 A481 B481 D481 V481) A481 e481 (by rw [hml]; rfl) pd_11 rfl (by decide) (W := 3) (Nat.le_refl _) (by decide) (by decide) (by decide) d9_8 rfl rfl (fun v483 T483 L483 X483 hQ483 => ?_)
  obtain ⟨rfl, rfl, e483⟩ := hQ483
  show Ends p.tables e below _ (T483.setTop (mkF m 11 #[.val (.ref x0)] [(.int (1 : Int32)), (.int (2 : Int32)), (.int (0 : Int32)), (.ref x0)]))
  refine own_isub X483 hx hby d9_11 rfl ?_
  show Ends p.tables e below _ (T483.setTop (mkF m 12 #[.val (.ref x0)] [(.int (1 : Int32)), (.int (0 : Int32)), (.ref x0)]))
  have f486 := (E.ext E481)
  have f487 := (Fc.ext E481)
  have f488 := (Fv.ext E481)
  have f489 := (Vb.ext E481)
  refine own_virtual X483 hx hby hZ (Cn := "java/lang/String") (a := x0) (argsL := [(.int (0 : Int32)), (.int (1 : Int32))]) (rest := []) hown (hw _ tw_55) (hw _ tw_56) (hw _ tw_58) (hw _ tw_57) (hw _ tw_6) (hw _ tw_59) (by decide) (rmsu_1 l Z a0 hw x0 h481 n0 hks hfm CS FS f484 f486 f487 f488 f489) f486 e483 (by rw [hml]; rfl) pd_15 rfl (by decide) (W := 0) (Nat.le_refl _) (by decide) (by decide) (by decide) d9_12 rfl rfl (fun v485 T485 L485 X485 hQ485 => ?_)
  obtain ⟨a485, b485, k485, rfl, N485q, K485, A485, B485, D485, V485⟩ := hQ485
  show Ends p.tables e below _ (T485.setTop (mkF m 15 #[.val (.ref x0)] [(.ref a485)]))
  have f490 := (own_Rk R481 K485 all0)
  have f491 := (Nat.le_trans hk481 K485.1)
  refine own_retH X485 hx hby hret hlk d9_15 (.ref a485) rfl (Or.inr (Or.inr ⟨rfl, rfl, rfl⟩)) hZ hEL (by rw [show T485.heap = _ from rfl, show s.heap = _ from eh]; exact f490) hS (by rw [show T485.heap = _ from rfl]; exact f491) (by decide) (by decide) ?_
  have f492 := (((Keep.refl h0 []).ext E481).trans K485 all0)
  exact ⟨a485, b485, _, rfl, (Fr.app (Fr.app (Fr.app N0 (Fr.nil _)) (Fr.nil _)) N485q), f492, A485, B485, D485, V485⟩
set_option maxRecDepth 65536 in
set_option maxHeartbeats 40000000 in
theorem rmdi_2 (l : Launch) (Z : State) (a0 : Array Value) (hw : ∀ d ∈ tables_1, d.before a0 Z = true) (x0 : Addr) (h0 : Heap) (n0 : Nat) (hEL : EW Z a0 consts_1) {ks : Int32} {fm : Value} (hks : ¬ ks = 0) (hfm : fm.isRef = true) (CS : Sta Z Z.heap "java/lang/String" "COMPACT_STRINGS" "Z" (.int ks)) (FS : Sta Z Z.heap "jdk/internal/util/Preconditions" "SIOOBE_FORMATTER" "Ljava/util/function/BiFunction;" fm) {b1 : Addr} {k1 : ClassId} {z0 z1 z2 : Int32} (O : Old Z n0 h0) (E : Exa Z h0 x0 "java/lang/String") (Fc : Fld Z h0 x0 "java/lang/String" "coder" "B" (.int 0)) (Fv : Fld Z h0 x0 "java/lang/String" "value" "[B" (.ref b1)) (Vb : Arv Z h0 b1 k1 .byte (3 : Int32) [(.int z0), (.int z1), (.int z2)] (.int 0)) :
    OwnMetH l Z consts_1 [] (⟨"com/example/portunus/portunus/io/Invalidation", "directoryOf", "(Ljava/lang/String;)Ljava/lang/String;"⟩ : MethodName) prog_40_method_4_code 1 (some (.object "java/lang/String")) [] ({ frames := 5, cells := 4, slots := 14, locals := 122 } : Room) #[(.ref x0)] h0 (fun v h L => ∃ a b k, v = some (.ref a) ∧ Fr n0 L ∧ Keep h0 h [] ∧ Exa Z h a "java/lang/String" ∧ Fld Z h a "java/lang/String" "coder" "B" (.int 0) ∧ Fld Z h a "java/lang/String" "value" "[B" (.ref b) ∧ Arv Z h b k .byte (2 : Int32) [(.int z0), (.int z1)] (.int 0)) := by
  refine own_bodyH (plainFor_of_name pn_6) (fun m => ef_di_2 m x0) ?_
  intro p e s m below meth c s₁ X0 hx hby hml hown hnm hret hlk hZ e0 eh hS hH hxs
  replace hown : (s.setVm s.vm).vm.findClass "com/example/portunus/portunus/io/Invalidation" = some m.cls := hown
  replace hml : c.maxLocals = 1 := hml
  have N0 := Fr.nil n0
  show Ends p.tables e below _ (s₁.setTop (mkF m 0 #[.val (.ref x0)] []))
  refine own_aloadN X0 hx hby d9_0 rfl rfl rfl ?_
  refine own_iconst X0 hx hby d9_1 rfl (0 : Int32) rfl ?_
  refine own_aloadN X0 hx hby d9_2 rfl rfl rfl ?_
  refine own_virtual X0 hx hby hZ (Cn := "java/lang/String") (a := x0) (argsL := []) (rest := [(.int (0 : Int32)), (.ref x0)]) hown (hw _ tw_44) (hw _ tw_45) (hw _ tw_47) (hw _ tw_46) (hw _ tw_6) (hw _ tw_48) (by decide) (rmlength_3 l Z a0 hw x0 h0 hks hfm CS FS (O).2 E Fc Fv Vb) E e0 (by rw [hml]; rfl) pd_11 rfl (by decide) (W := 2) (Nat.le_refl _) (by decide) (by decide) (by decide) d9_3 rfl rfl (fun v493 T493 L493 X493 hQ493 => ?_)
  obtain ⟨rfl, rfl, e493⟩ := hQ493
  show Ends p.tables e below _ (T493.setTop (mkF m 6 #[.val (.ref x0)] [(.int (3 : Int32)), (.int (0 : Int32)), (.ref x0)]))
  have f495 := (CHr.refl hH)
  refine own_ldcH X493 hx hby hZ hown (hw _ tw_54) (own_satoms hw) e493 hS (Nat.le_refl _) hEL (show ("com/example/portunus/portunus/io/Invalidation", (21 : Nat)) ∈ consts_1 by decide) f495.1 [(.int (47 : Int32))] (1 : Int32) (by decide +kernel) (by decide) rfl 4 (by decide) (by decide) (by decide) (by decide) d9_6 rfl (fun b494 T494 h494 k494 c494 j494 X494 e494 E494 hS hk494 hZ hown A494 B494 D494 V494 C494 S494 => ?_)
  have R494 := f495.trans C494
  show Ends p.tables e below _ (T494.setTop (mkF m 8 #[.val (.ref x0)] [(.ref b494), (.int (3 : Int32)), (.int (0 : Int32)), (.ref x0)]))
  have f497 := (O.ext E494)
  refine own_virtual X494 hx hby hZ (Cn := "java/lang/String") (a := b494) (argsL := []) (rest := [(.int (3 : Int32)), (.int (0 : Int32)), (.ref x0)]) hown (hw _ tw_44) (hw _ tw_45) (hw _ tw_47) (hw _ tw_46) (hw _ tw_6) (hw _ tw_48) (by decide) (rmlength_1 l Z a0 hw b494 h494 hks hfm CS FS (f497).2 A494 B494 D494 V494) A494 e494 (by rw [hml]; rfl) pd_11 rfl (by decide) (W := 3) (Nat.le_refl _) (by decide) (by decide) (by decide) d9_8 rfl rfl (fun v496 T496 L496 X496 hQ496 => ?_)
  obtain ⟨rfl, rfl, e496⟩ := hQ496
  show Ends p.tables e below _ (T496.setTop (mkF m 11 #[.val (.ref x0)] [(.int (1 : Int32)), (.int (3 : Int32)), (.int (0 : Int32)), (.ref x0)]))
  refine own_isub X496 hx hby d9_11 rfl ?_
  show Ends p.tables e below _ (T496.setTop (mkF m 12 #[.val (.ref x0)] [(.int (2 : Int32)), (.int (0 : Int32)), (.ref x0)]))
  have f499 := (E.ext E494)
  have f500 := (Fc.ext E494)
  have f501 := (Fv.ext E494)
  have f502 := (Vb.ext E494)
  refine own_virtual X496 hx hby hZ (Cn := "java/lang/String") (a := x0) (argsL := [(.int (0 : Int32)), (.int (2 : Int32))]) (rest := []) hown (hw _ tw_55) (hw _ tw_56) (hw _ tw_58) (hw _ tw_57) (hw _ tw_6) (hw _ tw_59) (by decide) (rmsu_2 l Z a0 hw x0 h494 n0 hks hfm CS FS f497 f499 f500 f501 f502) f499 e496 (by rw [hml]; rfl) pd_15 rfl (by decide) (W := 0) (Nat.le_refl _) (by decide) (by decide) (by decide) d9_12 rfl rfl (fun v498 T498 L498 X498 hQ498 => ?_)
  obtain ⟨a498, b498, k498, rfl, N498q, K498, A498, B498, D498, V498⟩ := hQ498
  show Ends p.tables e below _ (T498.setTop (mkF m 15 #[.val (.ref x0)] [(.ref a498)]))
  have f503 := (own_Rk R494 K498 all0)
  have f504 := (Nat.le_trans hk494 K498.1)
  refine own_retH X498 hx hby hret hlk d9_15 (.ref a498) rfl (Or.inr (Or.inr ⟨rfl, rfl, rfl⟩)) hZ hEL (by rw [show T498.heap = _ from rfl, show s.heap = _ from eh]; exact f503) hS (by rw [show T498.heap = _ from rfl]; exact f504) (by decide) (by decide) ?_
  have f505 := (((Keep.refl h0 []).ext E494).trans K498 all0)
  exact ⟨a498, b498, _, rfl, (Fr.app (Fr.app (Fr.app N0 (Fr.nil _)) (Fr.nil _)) N498q), f505, A498, B498, D498, V498⟩
set_option maxRecDepth 65536 in
set_option maxHeartbeats 40000000 in
theorem rmdi_3 (l : Launch) (Z : State) (a0 : Array Value) (hw : ∀ d ∈ tables_1, d.before a0 Z = true) (x0 : Addr) (h0 : Heap) (n0 : Nat) (hEL : EW Z a0 consts_1) {ks : Int32} {fm : Value} (hks : ¬ ks = 0) (hfm : fm.isRef = true) (CS : Sta Z Z.heap "java/lang/String" "COMPACT_STRINGS" "Z" (.int ks)) (FS : Sta Z Z.heap "jdk/internal/util/Preconditions" "SIOOBE_FORMATTER" "Ljava/util/function/BiFunction;" fm) {b1 : Addr} {k1 : ClassId} {z0 z1 z2 z3 : Int32} (O : Old Z n0 h0) (E : Exa Z h0 x0 "java/lang/String") (Fc : Fld Z h0 x0 "java/lang/String" "coder" "B" (.int 0)) (Fv : Fld Z h0 x0 "java/lang/String" "value" "[B" (.ref b1)) (Vb : Arv Z h0 b1 k1 .byte (4 : Int32) [(.int z0), (.int z1), (.int z2), (.int z3)] (.int 0)) :
    OwnMetH l Z consts_1 [] (⟨"com/example/portunus/portunus/io/Invalidation", "directoryOf", "(Ljava/lang/String;)Ljava/lang/String;"⟩ : MethodName) prog_40_method_4_code 1 (some (.object "java/lang/String")) [] ({ frames := 5, cells := 4, slots := 15, locals := 122 } : Room) #[(.ref x0)] h0 (fun v h L => ∃ a b k, v = some (.ref a) ∧ Fr n0 L ∧ Keep h0 h [] ∧ Exa Z h a "java/lang/String" ∧ Fld Z h a "java/lang/String" "coder" "B" (.int 0) ∧ Fld Z h a "java/lang/String" "value" "[B" (.ref b) ∧ Arv Z h b k .byte (3 : Int32) [(.int z0), (.int z1), (.int z2)] (.int 0)) := by
  refine own_bodyH (plainFor_of_name pn_6) (fun m => ef_di_3 m x0) ?_
  intro p e s m below meth c s₁ X0 hx hby hml hown hnm hret hlk hZ e0 eh hS hH hxs
  replace hown : (s.setVm s.vm).vm.findClass "com/example/portunus/portunus/io/Invalidation" = some m.cls := hown
  replace hml : c.maxLocals = 1 := hml
  have N0 := Fr.nil n0
  show Ends p.tables e below _ (s₁.setTop (mkF m 0 #[.val (.ref x0)] []))
  refine own_aloadN X0 hx hby d9_0 rfl rfl rfl ?_
  refine own_iconst X0 hx hby d9_1 rfl (0 : Int32) rfl ?_
  refine own_aloadN X0 hx hby d9_2 rfl rfl rfl ?_
  refine own_virtual X0 hx hby hZ (Cn := "java/lang/String") (a := x0) (argsL := []) (rest := [(.int (0 : Int32)), (.ref x0)]) hown (hw _ tw_44) (hw _ tw_45) (hw _ tw_47) (hw _ tw_46) (hw _ tw_6) (hw _ tw_48) (by decide) (rmlength_4 l Z a0 hw x0 h0 hks hfm CS FS (O).2 E Fc Fv Vb) E e0 (by rw [hml]; rfl) pd_11 rfl (by decide) (W := 2) (Nat.le_refl _) (by decide) (by decide) (by decide) d9_3 rfl rfl (fun v506 T506 L506 X506 hQ506 => ?_)
  obtain ⟨rfl, rfl, e506⟩ := hQ506
  show Ends p.tables e below _ (T506.setTop (mkF m 6 #[.val (.ref x0)] [(.int (4 : Int32)), (.int (0 : Int32)), (.ref x0)]))
  have f508 := (CHr.refl hH)
  refine own_ldcH X506 hx hby hZ hown (hw _ tw_54) (own_satoms hw) e506 hS (Nat.le_refl _) hEL (show ("com/example/portunus/portunus/io/Invalidation", (21 : Nat)) ∈ consts_1 by decide) f508.1 [(.int (47 : Int32))] (1 : Int32) (by decide +kernel) (by decide) rfl 4 (by decide) (by decide) (by decide) (by decide) d9_6 rfl (fun b507 T507 h507 k507 c507 j507 X507 e507 E507 hS hk507 hZ hown A507 B507 D507 V507 C507 S507 => ?_)
  have R507 := f508.trans C507
  show Ends p.tables e below _ (T507.setTop (mkF m 8 #[.val (.ref x0)] [(.ref b507), (.int (4 : Int32)), (.int (0 : Int32)), (.ref x0)]))
  have f510 := (O.ext E507)
  refine own_virtual X507 hx hby hZ (Cn := "java/lang/String") (a := b507) (argsL := []) (rest := [(.int (4 : Int32)), (.int (0 : Int32)), (.ref x0)]) hown (hw _ tw_44) (hw _ tw_45) (hw _ tw_47) (hw _ tw_46) (hw _ tw_6) (hw _ tw_48) (by decide) (rmlength_1 l Z a0 hw b507 h507 hks hfm CS FS (f510).2 A507 B507 D507 V507) A507 e507 (by rw [hml]; rfl) pd_11 rfl (by decide) (W := 3) (Nat.le_refl _) (by decide) (by decide) (by decide) d9_8 rfl rfl (fun v509 T509 L509 X509 hQ509 => ?_)
  obtain ⟨rfl, rfl, e509⟩ := hQ509
  show Ends p.tables e below _ (T509.setTop (mkF m 11 #[.val (.ref x0)] [(.int (1 : Int32)), (.int (4 : Int32)), (.int (0 : Int32)), (.ref x0)]))
  refine own_isub X509 hx hby d9_11 rfl ?_
  show Ends p.tables e below _ (T509.setTop (mkF m 12 #[.val (.ref x0)] [(.int (3 : Int32)), (.int (0 : Int32)), (.ref x0)]))
  have f512 := (E.ext E507)
  have f513 := (Fc.ext E507)
  have f514 := (Fv.ext E507)
  have f515 := (Vb.ext E507)
  refine own_virtual X509 hx hby hZ (Cn := "java/lang/String") (a := x0) (argsL := [(.int (0 : Int32)), (.int (3 : Int32))]) (rest := []) hown (hw _ tw_55) (hw _ tw_56) (hw _ tw_58) (hw _ tw_57) (hw _ tw_6) (hw _ tw_59) (by decide) (rmsu_3 l Z a0 hw x0 h507 n0 hks hfm CS FS f510 f512 f513 f514 f515) f512 e509 (by rw [hml]; rfl) pd_15 rfl (by decide) (W := 0) (Nat.le_refl _) (by decide) (by decide) (by decide) d9_12 rfl rfl (fun v511 T511 L511 X511 hQ511 => ?_)
  obtain ⟨a511, b511, k511, rfl, N511q, K511, A511, B511, D511, V511⟩ := hQ511
  show Ends p.tables e below _ (T511.setTop (mkF m 15 #[.val (.ref x0)] [(.ref a511)]))
  have f516 := (own_Rk R507 K511 all0)
  have f517 := (Nat.le_trans hk507 K511.1)
  refine own_retH X511 hx hby hret hlk d9_15 (.ref a511) rfl (Or.inr (Or.inr ⟨rfl, rfl, rfl⟩)) hZ hEL (by rw [show T511.heap = _ from rfl, show s.heap = _ from eh]; exact f516) hS (by rw [show T511.heap = _ from rfl]; exact f517) (by decide) (by decide) ?_
  have f518 := (((Keep.refl h0 []).ext E507).trans K511 all0)
  exact ⟨a511, b511, _, rfl, (Fr.app (Fr.app (Fr.app N0 (Fr.nil _)) (Fr.nil _)) N511q), f518, A511, B511, D511, V511⟩
set_option maxRecDepth 65536 in
set_option maxHeartbeats 40000000 in
theorem rmle_0 (l : Launch) (Z : State) (a0 : Array Value) (hw : ∀ d ∈ tables_1, d.before a0 Z = true) (x0 : Addr) (x1 : Addr) (h0 : Heap) {ka kb : ClassId} (Va : Arv Z h0 x0 ka .byte (0 : Int32) [] (.int 0)) (Vb : Arv Z h0 x1 kb .byte (0 : Int32) [] (.int 0)) :
    OwnMet l Z (⟨"java/lang/StringLatin1", "equals", "([B[B)Z"⟩ : MethodName) jdk_43_method_13_code 3 (some .boolean) [] ({ frames := 0, cells := 0, slots := 0, locals := 0 } : Room) #[(.ref x0), (.ref x1)] h0 (fun v h L => v = some (.int 1) ∧ L = [] ∧ h = h0) := by
  refine own_body (plainFor_of_name pn_5) (fun m => ef_le_0 m x0 x1) ?_
  intro p e s m below meth c s₁ X0 hx hby hml hown hnm hret hlk hZ e0
  replace hown : s.vm.findClass "java/lang/StringLatin1" = some m.cls := hown
  replace hml : c.maxLocals = 3 := hml
  show Ends p.tables e below _ (s₁.setTop (mkF m 0 #[.val (.ref x0), .val (.ref x1), .unset] []))
  refine own_aloadN X0 hx hby d18_0 rfl rfl rfl ?_
  refine own_arraylength X0 hx hby hZ e0 Va d18_1 rfl ?_
  refine own_aloadN X0 hx hby d18_2 rfl rfl rfl ?_
  refine own_arraylength X0 hx hby hZ e0 Vb d18_3 rfl ?_
  refine own_icmp_ne X0 hx hby d18_4 (pcY := 34) (pcN := 7) (by decide) rfl (fun (hc519 : ¬ (0 : Int32) = (0 : Int32)) => False.elim (by exact absurd hc519 (by decide))) (fun (hc519 : (0 : Int32) = (0 : Int32)) => ?_)
  refine own_iconst X0 hx hby d18_7 rfl (0 : Int32) rfl ?_
  refine own_istoreN X0 hx hby d18_8 rfl #[.val (.ref x0), .val (.ref x1), .val (.int (0 : Int32))] rfl ?_
  refine own_iloadN X0 hx hby d18_9 rfl rfl ?_
  refine own_aloadN X0 hx hby d18_10 rfl rfl rfl ?_
  refine own_arraylength X0 hx hby hZ e0 Va d18_11 rfl ?_
  refine own_icmp_ge X0 hx hby d18_12 (pcY := 32) (pcN := 15) (by decide) rfl (fun (hc520 : 0 ≤ 0) => ?_) (fun (hc520 : 0 < 0) => False.elim (by exact absurd hc520 (by decide)))
  refine own_iconst X0 hx hby d18_32 rfl (1 : Int32) rfl ?_
  refine own_ret X0 hx hby hret hlk d18_33 (.int (1 : Int32)) rfl (Or.inl ⟨rfl, by simp, _, rfl⟩) (by decide) (by decide) ?_
  exact ⟨rfl, rfl, e0⟩
set_option maxRecDepth 65536 in
set_option maxHeartbeats 40000000 in
theorem rmle_1 (l : Launch) (Z : State) (a0 : Array Value) (hw : ∀ d ∈ tables_1, d.before a0 Z = true) (x0 : Addr) (x1 : Addr) (h0 : Heap) {ka kb : ClassId} {z0 : Int32} (Va : Arv Z h0 x0 ka .byte (1 : Int32) [(.int z0)] (.int 0)) (Vb : Arv Z h0 x1 kb .byte (1 : Int32) [(.int z0)] (.int 0)) :
    OwnMet l Z (⟨"java/lang/StringLatin1", "equals", "([B[B)Z"⟩ : MethodName) jdk_43_method_13_code 3 (some .boolean) [] ({ frames := 0, cells := 0, slots := 0, locals := 0 } : Room) #[(.ref x0), (.ref x1)] h0 (fun v h L => v = some (.int 1) ∧ L = [] ∧ h = h0) := by
  refine own_body (plainFor_of_name pn_5) (fun m => ef_le_1 m x0 x1) ?_
  intro p e s m below meth c s₁ X0 hx hby hml hown hnm hret hlk hZ e0
  replace hown : s.vm.findClass "java/lang/StringLatin1" = some m.cls := hown
  replace hml : c.maxLocals = 3 := hml
  show Ends p.tables e below _ (s₁.setTop (mkF m 0 #[.val (.ref x0), .val (.ref x1), .unset] []))
  refine own_aloadN X0 hx hby d18_0 rfl rfl rfl ?_
  refine own_arraylength X0 hx hby hZ e0 Va d18_1 rfl ?_
  refine own_aloadN X0 hx hby d18_2 rfl rfl rfl ?_
  refine own_arraylength X0 hx hby hZ e0 Vb d18_3 rfl ?_
  refine own_icmp_ne X0 hx hby d18_4 (pcY := 34) (pcN := 7) (by decide) rfl (fun (hc521 : ¬ (1 : Int32) = (1 : Int32)) => False.elim (by exact absurd hc521 (by decide))) (fun (hc521 : (1 : Int32) = (1 : Int32)) => ?_)
  refine own_iconst X0 hx hby d18_7 rfl (0 : Int32) rfl ?_
  refine own_istoreN X0 hx hby d18_8 rfl #[.val (.ref x0), .val (.ref x1), .val (.int (0 : Int32))] rfl ?_
  refine own_iloadN X0 hx hby d18_9 rfl rfl ?_
  refine own_aloadN X0 hx hby d18_10 rfl rfl rfl ?_
  refine own_arraylength X0 hx hby hZ e0 Va d18_11 rfl ?_
  refine own_icmp_ge X0 hx hby d18_12 (pcY := 32) (pcN := 15) (by decide) rfl (fun (hc522 : 1 ≤ 0) => False.elim (by exact absurd hc522 (by decide))) (fun (hc522 : 0 < 1) => ?_)
  refine own_aloadN X0 hx hby d18_15 rfl rfl rfl ?_
  refine own_iloadN X0 hx hby d18_16 rfl rfl ?_
  refine own_baload X0 hx hby hZ z0 e0 Va (by decide) rfl d18_17 rfl ?_
  refine own_aloadN X0 hx hby d18_18 rfl rfl rfl ?_
  refine own_iloadN X0 hx hby d18_19 rfl rfl ?_
  refine own_baload X0 hx hby hZ z0 e0 Vb (by decide) rfl d18_20 rfl ?_
  refine own_icmp_eq X0 hx hby d18_21 (pcY := 26) (pcN := 24) (by decide) rfl (fun (hc523 : z0 = z0) => ?_) (fun (hc523 : ¬ z0 = z0) => False.elim (by exact hc523 rfl))
  refine own_iinc X0 hx hby d18_26 rfl (1 : Int32) rfl #[.val (.ref x0), .val (.ref x1), .val (.int (1 : Int32))] rfl rfl ?_
  refine own_goto X0 hx hby d18_29 (pc' := 9) (by decide) ?_
  refine own_iloadN X0 hx hby d18_9 rfl rfl ?_
  refine own_aloadN X0 hx hby d18_10 rfl rfl rfl ?_
  refine own_arraylength X0 hx hby hZ e0 Va d18_11 rfl ?_
  refine own_icmp_ge X0 hx hby d18_12 (pcY := 32) (pcN := 15) (by decide) rfl (fun (hc524 : 1 ≤ 1) => ?_) (fun (hc524 : 1 < 1) => False.elim (by exact absurd hc524 (by decide)))
  refine own_iconst X0 hx hby d18_32 rfl (1 : Int32) rfl ?_
  refine own_ret X0 hx hby hret hlk d18_33 (.int (1 : Int32)) rfl (Or.inl ⟨rfl, by simp, _, rfl⟩) (by decide) (by decide) ?_
  exact ⟨rfl, rfl, e0⟩
set_option maxRecDepth 65536 in
set_option maxHeartbeats 40000000 in
theorem rmle_2 (l : Launch) (Z : State) (a0 : Array Value) (hw : ∀ d ∈ tables_1, d.before a0 Z = true) (x0 : Addr) (x1 : Addr) (h0 : Heap) {ka kb : ClassId} {z0 z1 : Int32} (Va : Arv Z h0 x0 ka .byte (2 : Int32) [(.int z0), (.int z1)] (.int 0)) (Vb : Arv Z h0 x1 kb .byte (2 : Int32) [(.int z0), (.int z1)] (.int 0)) :
    OwnMet l Z (⟨"java/lang/StringLatin1", "equals", "([B[B)Z"⟩ : MethodName) jdk_43_method_13_code 3 (some .boolean) [] ({ frames := 0, cells := 0, slots := 0, locals := 0 } : Room) #[(.ref x0), (.ref x1)] h0 (fun v h L => v = some (.int 1) ∧ L = [] ∧ h = h0) := by
  refine own_body (plainFor_of_name pn_5) (fun m => ef_le_2 m x0 x1) ?_
  intro p e s m below meth c s₁ X0 hx hby hml hown hnm hret hlk hZ e0
  replace hown : s.vm.findClass "java/lang/StringLatin1" = some m.cls := hown
  replace hml : c.maxLocals = 3 := hml
  show Ends p.tables e below _ (s₁.setTop (mkF m 0 #[.val (.ref x0), .val (.ref x1), .unset] []))
  refine own_aloadN X0 hx hby d18_0 rfl rfl rfl ?_
  refine own_arraylength X0 hx hby hZ e0 Va d18_1 rfl ?_
  refine own_aloadN X0 hx hby d18_2 rfl rfl rfl ?_
  refine own_arraylength X0 hx hby hZ e0 Vb d18_3 rfl ?_
  refine own_icmp_ne X0 hx hby d18_4 (pcY := 34) (pcN := 7) (by decide) rfl (fun (hc525 : ¬ (2 : Int32) = (2 : Int32)) => False.elim (by exact absurd hc525 (by decide))) (fun (hc525 : (2 : Int32) = (2 : Int32)) => ?_)
  refine own_iconst X0 hx hby d18_7 rfl (0 : Int32) rfl ?_
  refine own_istoreN X0 hx hby d18_8 rfl #[.val (.ref x0), .val (.ref x1), .val (.int (0 : Int32))] rfl ?_
  refine own_iloadN X0 hx hby d18_9 rfl rfl ?_
  refine own_aloadN X0 hx hby d18_10 rfl rfl rfl ?_
  refine own_arraylength X0 hx hby hZ e0 Va d18_11 rfl ?_
  refine own_icmp_ge X0 hx hby d18_12 (pcY := 32) (pcN := 15) (by decide) rfl (fun (hc526 : 2 ≤ 0) => False.elim (by exact absurd hc526 (by decide))) (fun (hc526 : 0 < 2) => ?_)
  refine own_aloadN X0 hx hby d18_15 rfl rfl rfl ?_
  refine own_iloadN X0 hx hby d18_16 rfl rfl ?_
  refine own_baload X0 hx hby hZ z0 e0 Va (by decide) rfl d18_17 rfl ?_
  refine own_aloadN X0 hx hby d18_18 rfl rfl rfl ?_
  refine own_iloadN X0 hx hby d18_19 rfl rfl ?_
  refine own_baload X0 hx hby hZ z0 e0 Vb (by decide) rfl d18_20 rfl ?_
  refine own_icmp_eq X0 hx hby d18_21 (pcY := 26) (pcN := 24) (by decide) rfl (fun (hc527 : z0 = z0) => ?_) (fun (hc527 : ¬ z0 = z0) => False.elim (by exact hc527 rfl))
  refine own_iinc X0 hx hby d18_26 rfl (1 : Int32) rfl #[.val (.ref x0), .val (.ref x1), .val (.int (1 : Int32))] rfl rfl ?_
  refine own_goto X0 hx hby d18_29 (pc' := 9) (by decide) ?_
  refine own_iloadN X0 hx hby d18_9 rfl rfl ?_
  refine own_aloadN X0 hx hby d18_10 rfl rfl rfl ?_
  refine own_arraylength X0 hx hby hZ e0 Va d18_11 rfl ?_
  refine own_icmp_ge X0 hx hby d18_12 (pcY := 32) (pcN := 15) (by decide) rfl (fun (hc528 : 2 ≤ 1) => False.elim (by exact absurd hc528 (by decide))) (fun (hc528 : 1 < 2) => ?_)
  refine own_aloadN X0 hx hby d18_15 rfl rfl rfl ?_
  refine own_iloadN X0 hx hby d18_16 rfl rfl ?_
  refine own_baload X0 hx hby hZ z1 e0 Va (by decide) rfl d18_17 rfl ?_
  refine own_aloadN X0 hx hby d18_18 rfl rfl rfl ?_
  refine own_iloadN X0 hx hby d18_19 rfl rfl ?_
  refine own_baload X0 hx hby hZ z1 e0 Vb (by decide) rfl d18_20 rfl ?_
  refine own_icmp_eq X0 hx hby d18_21 (pcY := 26) (pcN := 24) (by decide) rfl (fun (hc529 : z1 = z1) => ?_) (fun (hc529 : ¬ z1 = z1) => False.elim (by exact hc529 rfl))
  refine own_iinc X0 hx hby d18_26 rfl (1 : Int32) rfl #[.val (.ref x0), .val (.ref x1), .val (.int (2 : Int32))] rfl rfl ?_
  refine own_goto X0 hx hby d18_29 (pc' := 9) (by decide) ?_
  refine own_iloadN X0 hx hby d18_9 rfl rfl ?_
  refine own_aloadN X0 hx hby d18_10 rfl rfl rfl ?_
  refine own_arraylength X0 hx hby hZ e0 Va d18_11 rfl ?_
  refine own_icmp_ge X0 hx hby d18_12 (pcY := 32) (pcN := 15) (by decide) rfl (fun (hc530 : 2 ≤ 2) => ?_) (fun (hc530 : 2 < 2) => False.elim (by exact absurd hc530 (by decide)))
  refine own_iconst X0 hx hby d18_32 rfl (1 : Int32) rfl ?_
  refine own_ret X0 hx hby hret hlk d18_33 (.int (1 : Int32)) rfl (Or.inl ⟨rfl, by simp, _, rfl⟩) (by decide) (by decide) ?_
  exact ⟨rfl, rfl, e0⟩
set_option maxRecDepth 65536 in
set_option maxHeartbeats 40000000 in
theorem rmle_3 (l : Launch) (Z : State) (a0 : Array Value) (hw : ∀ d ∈ tables_1, d.before a0 Z = true) (x0 : Addr) (x1 : Addr) (h0 : Heap) {ka kb : ClassId} {z0 z1 z2 : Int32} (Va : Arv Z h0 x0 ka .byte (3 : Int32) [(.int z0), (.int z1), (.int z2)] (.int 0)) (Vb : Arv Z h0 x1 kb .byte (3 : Int32) [(.int z0), (.int z1), (.int z2)] (.int 0)) :
    OwnMet l Z (⟨"java/lang/StringLatin1", "equals", "([B[B)Z"⟩ : MethodName) jdk_43_method_13_code 3 (some .boolean) [] ({ frames := 0, cells := 0, slots := 0, locals := 0 } : Room) #[(.ref x0), (.ref x1)] h0 (fun v h L => v = some (.int 1) ∧ L = [] ∧ h = h0) := by
  refine own_body (plainFor_of_name pn_5) (fun m => ef_le_3 m x0 x1) ?_
  intro p e s m below meth c s₁ X0 hx hby hml hown hnm hret hlk hZ e0
  replace hown : s.vm.findClass "java/lang/StringLatin1" = some m.cls := hown
  replace hml : c.maxLocals = 3 := hml
  show Ends p.tables e below _ (s₁.setTop (mkF m 0 #[.val (.ref x0), .val (.ref x1), .unset] []))
  refine own_aloadN X0 hx hby d18_0 rfl rfl rfl ?_
  refine own_arraylength X0 hx hby hZ e0 Va d18_1 rfl ?_
  refine own_aloadN X0 hx hby d18_2 rfl rfl rfl ?_
  refine own_arraylength X0 hx hby hZ e0 Vb d18_3 rfl ?_
  refine own_icmp_ne X0 hx hby d18_4 (pcY := 34) (pcN := 7) (by decide) rfl (fun (hc531 : ¬ (3 : Int32) = (3 : Int32)) => False.elim (by exact absurd hc531 (by decide))) (fun (hc531 : (3 : Int32) = (3 : Int32)) => ?_)
  refine own_iconst X0 hx hby d18_7 rfl (0 : Int32) rfl ?_
  refine own_istoreN X0 hx hby d18_8 rfl #[.val (.ref x0), .val (.ref x1), .val (.int (0 : Int32))] rfl ?_
  refine own_iloadN X0 hx hby d18_9 rfl rfl ?_
  refine own_aloadN X0 hx hby d18_10 rfl rfl rfl ?_
  refine own_arraylength X0 hx hby hZ e0 Va d18_11 rfl ?_
  refine own_icmp_ge X0 hx hby d18_12 (pcY := 32) (pcN := 15) (by decide) rfl (fun (hc532 : 3 ≤ 0) => False.elim (by exact absurd hc532 (by decide))) (fun (hc532 : 0 < 3) => ?_)
  refine own_aloadN X0 hx hby d18_15 rfl rfl rfl ?_
  refine own_iloadN X0 hx hby d18_16 rfl rfl ?_
  refine own_baload X0 hx hby hZ z0 e0 Va (by decide) rfl d18_17 rfl ?_
  refine own_aloadN X0 hx hby d18_18 rfl rfl rfl ?_
  refine own_iloadN X0 hx hby d18_19 rfl rfl ?_
  refine own_baload X0 hx hby hZ z0 e0 Vb (by decide) rfl d18_20 rfl ?_
  refine own_icmp_eq X0 hx hby d18_21 (pcY := 26) (pcN := 24) (by decide) rfl (fun (hc533 : z0 = z0) => ?_) (fun (hc533 : ¬ z0 = z0) => False.elim (by exact hc533 rfl))
  refine own_iinc X0 hx hby d18_26 rfl (1 : Int32) rfl #[.val (.ref x0), .val (.ref x1), .val (.int (1 : Int32))] rfl rfl ?_
  refine own_goto X0 hx hby d18_29 (pc' := 9) (by decide) ?_
  refine own_iloadN X0 hx hby d18_9 rfl rfl ?_
  refine own_aloadN X0 hx hby d18_10 rfl rfl rfl ?_
  refine own_arraylength X0 hx hby hZ e0 Va d18_11 rfl ?_
  refine own_icmp_ge X0 hx hby d18_12 (pcY := 32) (pcN := 15) (by decide) rfl (fun (hc534 : 3 ≤ 1) => False.elim (by exact absurd hc534 (by decide))) (fun (hc534 : 1 < 3) => ?_)
  refine own_aloadN X0 hx hby d18_15 rfl rfl rfl ?_
  refine own_iloadN X0 hx hby d18_16 rfl rfl ?_
  refine own_baload X0 hx hby hZ z1 e0 Va (by decide) rfl d18_17 rfl ?_
  refine own_aloadN X0 hx hby d18_18 rfl rfl rfl ?_
  refine own_iloadN X0 hx hby d18_19 rfl rfl ?_
  refine own_baload X0 hx hby hZ z1 e0 Vb (by decide) rfl d18_20 rfl ?_
  refine own_icmp_eq X0 hx hby d18_21 (pcY := 26) (pcN := 24) (by decide) rfl (fun (hc535 : z1 = z1) => ?_) (fun (hc535 : ¬ z1 = z1) => False.elim (by exact hc535 rfl))
  refine own_iinc X0 hx hby d18_26 rfl (1 : Int32) rfl #[.val (.ref x0), .val (.ref x1), .val (.int (2 : Int32))] rfl rfl ?_
  refine own_goto X0 hx hby d18_29 (pc' := 9) (by decide) ?_
  refine own_iloadN X0 hx hby d18_9 rfl rfl ?_
  refine own_aloadN X0 hx hby d18_10 rfl rfl rfl ?_
  refine own_arraylength X0 hx hby hZ e0 Va d18_11 rfl ?_
  refine own_icmp_ge X0 hx hby d18_12 (pcY := 32) (pcN := 15) (by decide) rfl (fun (hc536 : 3 ≤ 2) => False.elim (by exact absurd hc536 (by decide))) (fun (hc536 : 2 < 3) => ?_)
  refine own_aloadN X0 hx hby d18_15 rfl rfl rfl ?_
  refine own_iloadN X0 hx hby d18_16 rfl rfl ?_
  refine own_baload X0 hx hby hZ z2 e0 Va (by decide) rfl d18_17 rfl ?_
  refine own_aloadN X0 hx hby d18_18 rfl rfl rfl ?_
  refine own_iloadN X0 hx hby d18_19 rfl rfl ?_
  refine own_baload X0 hx hby hZ z2 e0 Vb (by decide) rfl d18_20 rfl ?_
  refine own_icmp_eq X0 hx hby d18_21 (pcY := 26) (pcN := 24) (by decide) rfl (fun (hc537 : z2 = z2) => ?_) (fun (hc537 : ¬ z2 = z2) => False.elim (by exact hc537 rfl))
  refine own_iinc X0 hx hby d18_26 rfl (1 : Int32) rfl #[.val (.ref x0), .val (.ref x1), .val (.int (3 : Int32))] rfl rfl ?_
  refine own_goto X0 hx hby d18_29 (pc' := 9) (by decide) ?_
  refine own_iloadN X0 hx hby d18_9 rfl rfl ?_
  refine own_aloadN X0 hx hby d18_10 rfl rfl rfl ?_
  refine own_arraylength X0 hx hby hZ e0 Va d18_11 rfl ?_
  refine own_icmp_ge X0 hx hby d18_12 (pcY := 32) (pcN := 15) (by decide) rfl (fun (hc538 : 3 ≤ 3) => ?_) (fun (hc538 : 3 < 3) => False.elim (by exact absurd hc538 (by decide)))
  refine own_iconst X0 hx hby d18_32 rfl (1 : Int32) rfl ?_
  refine own_ret X0 hx hby hret hlk d18_33 (.int (1 : Int32)) rfl (Or.inl ⟨rfl, by simp, _, rfl⟩) (by decide) (by decide) ?_
  exact ⟨rfl, rfl, e0⟩
set_option maxRecDepth 65536 in
set_option maxHeartbeats 40000000 in
theorem rmeq_0 (l : Launch) (Z : State) (a0 : Array Value) (hw : ∀ d ∈ tables_1, d.before a0 Z = true) (x0 : Addr) (x1 : Addr) (h0 : Heap) {ks : Int32} {fm : Value} (hks : ¬ ks = 0) (hfm : fm.isRef = true) (CS : Sta Z Z.heap "java/lang/String" "COMPACT_STRINGS" "Z" (.int ks)) (FS : Sta Z Z.heap "jdk/internal/util/Preconditions" "SIOOBE_FORMATTER" "Ljava/util/function/BiFunction;" fm) (O : Ext Z.heap h0) {b1 b2 : Addr} {k1 k2 : ClassId} (E : Exa Z h0 x0 "java/lang/String") (Fc : Fld Z h0 x0 "java/lang/String" "coder" "B" (.int 0)) (Fv : Fld Z h0 x0 "java/lang/String" "value" "[B" (.ref b1)) (Vb : Arv Z h0 b1 k1 .byte (0 : Int32) [] (.int 0)) (E2 : Exa Z h0 x1 "java/lang/String") (Fc2 : Fld Z h0 x1 "java/lang/String" "coder" "B" (.int 0)) (Fv2 : Fld Z h0 x1 "java/lang/String" "value" "[B" (.ref b2)) (Vb2 : Arv Z h0 b2 k2 .byte (0 : Int32) [] (.int 0)) :
    OwnMet l Z (⟨"java/lang/String", "equals", "(Ljava/lang/Object;)Z"⟩ : MethodName) jdk_42_method_66_code 3 (some .boolean) [] ({ frames := 1, cells := 0, slots := 0, locals := 14 } : Room) #[(.ref x0), (.ref x1)] h0 (fun v h L => v = some (.int 1) ∧ L = [] ∧ h = h0) := by
  refine own_body (plainFor_of_name pn_0) (fun m => ef_eq_0 m x0 x1) ?_
  intro p e s m below meth c s₁ X0 hx hby hml hown hnm hret hlk hZ e0
  replace hown : s.vm.findClass "java/lang/String" = some m.cls := hown
  replace hml : c.maxLocals = 3 := hml
  show Ends p.tables e below _ (s₁.setTop (mkF m 0 #[.val (.ref x0), .val (.ref x1), .unset] []))
  refine own_aloadN X0 hx hby d17_0 rfl rfl rfl ?_
  refine own_aloadN X0 hx hby d17_1 rfl rfl rfl ?_
  refine own_acmp_ne X0 hx hby d17_2 (pcY := 7) (pcN := 5) (by decide) rfl rfl rfl (fun (hc539 : ¬ ((.ref x0) : Value) = (.ref x1)) => ?_) (fun (hc539 : ((.ref x0) : Value) = (.ref x1)) => ?_)
  · -- pc 2: t
    refine own_aloadN X0 hx hby d17_7 rfl rfl rfl ?_
    refine own_instY X0 hx hby hZ hown (hw _ tw_84) e0 (Ins.self E2) d17_8 rfl (fun T540 X540 e540 => ?_)
    show Ends p.tables e below _ (T540.setTop (mkF m 11 #[.val (.ref x0), .val (.ref x1), .unset] [(.int (1 : Int32))]))
    refine own_if_eq X540 hx hby d17_11 (pcY := 54) (pcN := 14) (by decide) rfl (fun (hc541 : (1 : Int32) = (0 : Int32)) => False.elim (by exact absurd hc541 (by decide))) (fun (hc541 : ¬ (1 : Int32) = (0 : Int32)) => ?_)
    refine own_aloadN X540 hx hby d17_14 rfl rfl rfl ?_
    refine own_checkcast X540 hx hby hZ hown (hw _ tw_84) e540 (Ins.self E2) d17_15 rfl (fun T542 X542 e542 => ?_)
    refine own_astoreN X542 hx hby d17_18 rfl #[.val (.ref x0), .val (.ref x1), .val (.ref x1)] rfl rfl ?_
    refine own_getstatic X542 hx hby hZ hown (host := "") (Or.inl (hw _ tw_29)) Via.refl e542 (CS.ext O) d17_19 rfl (fun T543 X543 e543 => ?_)
    refine own_if_eq X543 hx hby d17_22 (pcY := 36) (pcN := 25) (by decide) rfl (fun (hc544 : ks = (0 : Int32)) => False.elim (by exact hks hc544)) (fun (hc544 : ¬ ks = (0 : Int32)) => ?_)
    refine own_aloadN X543 hx hby d17_25 rfl rfl rfl ?_
    refine own_getfield X543 hx hby hZ hown (host := "") (Or.inl (hw _ tw_25)) Via.refl e543 Fc d17_26 rfl (fun T545 X545 e545 => ?_)
    refine own_aloadN X545 hx hby d17_29 rfl rfl rfl ?_
    refine own_getfield X545 hx hby hZ hown (host := "") (Or.inl (hw _ tw_25)) Via.refl e545 Fc2 d17_30 rfl (fun T546 X546 e546 => ?_)
    refine own_icmp_ne X546 hx hby d17_33 (pcY := 54) (pcN := 36) (by decide) rfl (fun (hc547 : ¬ (0 : Int32) = (0 : Int32)) => False.elim (by exact absurd hc547 (by decide))) (fun (hc547 : (0 : Int32) = (0 : Int32)) => ?_)
    refine own_aloadN X546 hx hby d17_36 rfl rfl rfl ?_
    refine own_getfield X546 hx hby hZ hown (host := "") (Or.inl (hw _ tw_24)) Via.refl e546 Fv d17_37 rfl (fun T548 X548 e548 => ?_)
    refine own_aloadN X548 hx hby d17_40 rfl rfl rfl ?_
    refine own_getfield X548 hx hby hZ hown (host := "") (Or.inl (hw _ tw_24)) Via.refl e548 Fv2 d17_41 rfl (fun T549 X549 e549 => ?_)
    refine own_static X549 hx hby hZ (argsL := [(.ref b1), (.ref b2)]) (rest := []) hown (hw _ tw_85) (hw _ tw_86) (hw _ tw_76) (hw _ tw_87) (by decide) (rmle_0 l Z a0 hw b1 b2 h0 Vb Vb2) e549 (by rw [hml]; rfl) pd_16 rfl (by decide) (W := 0) (Nat.le_refl _) (by decide) (by decide) (by decide) d17_44 rfl rfl (fun v550 T550 L550 X550 hQ550 => ?_)
    obtain ⟨rfl, rfl, e550⟩ := hQ550
    show Ends p.tables e below _ (T550.setTop (mkF m 47 #[.val (.ref x0), .val (.ref x1), .val (.ref x1)] [(.int (1 : Int32))]))
    refine own_if_eq X550 hx hby d17_47 (pcY := 54) (pcN := 50) (by decide) rfl (fun (hc551 : (1 : Int32) = (0 : Int32)) => False.elim (by exact absurd hc551 (by decide))) (fun (hc551 : ¬ (1 : Int32) = (0 : Int32)) => ?_)
    refine own_iconst X550 hx hby d17_50 rfl (1 : Int32) rfl ?_
    refine own_goto X550 hx hby d17_51 (pc' := 55) (by decide) ?_
    refine own_ret X550 hx hby hret hlk d17_55 (.int (1 : Int32)) rfl (Or.inl ⟨rfl, by simp, _, rfl⟩) (by decide) (by decide) ?_
    exact ⟨rfl, rfl, e550⟩
  · -- pc 2: f
    refine own_iconst X0 hx hby d17_5 rfl (1 : Int32) rfl ?_
    refine own_ret X0 hx hby hret hlk d17_6 (.int (1 : Int32)) rfl (Or.inl ⟨rfl, by simp, _, rfl⟩) (by decide) (by decide) ?_
    exact ⟨rfl, rfl, e0⟩
set_option maxRecDepth 65536 in
set_option maxHeartbeats 40000000 in
theorem rmeq_1 (l : Launch) (Z : State) (a0 : Array Value) (hw : ∀ d ∈ tables_1, d.before a0 Z = true) (x0 : Addr) (x1 : Addr) (h0 : Heap) {ks : Int32} {fm : Value} (hks : ¬ ks = 0) (hfm : fm.isRef = true) (CS : Sta Z Z.heap "java/lang/String" "COMPACT_STRINGS" "Z" (.int ks)) (FS : Sta Z Z.heap "jdk/internal/util/Preconditions" "SIOOBE_FORMATTER" "Ljava/util/function/BiFunction;" fm) (O : Ext Z.heap h0) {b1 b2 : Addr} {k1 k2 : ClassId} {z0 : Int32} (E : Exa Z h0 x0 "java/lang/String") (Fc : Fld Z h0 x0 "java/lang/String" "coder" "B" (.int 0)) (Fv : Fld Z h0 x0 "java/lang/String" "value" "[B" (.ref b1)) (Vb : Arv Z h0 b1 k1 .byte (1 : Int32) [(.int z0)] (.int 0)) (E2 : Exa Z h0 x1 "java/lang/String") (Fc2 : Fld Z h0 x1 "java/lang/String" "coder" "B" (.int 0)) (Fv2 : Fld Z h0 x1 "java/lang/String" "value" "[B" (.ref b2)) (Vb2 : Arv Z h0 b2 k2 .byte (1 : Int32) [(.int z0)] (.int 0)) :
    OwnMet l Z (⟨"java/lang/String", "equals", "(Ljava/lang/Object;)Z"⟩ : MethodName) jdk_42_method_66_code 3 (some .boolean) [] ({ frames := 1, cells := 0, slots := 0, locals := 14 } : Room) #[(.ref x0), (.ref x1)] h0 (fun v h L => v = some (.int 1) ∧ L = [] ∧ h = h0) := by
  refine own_body (plainFor_of_name pn_0) (fun m => ef_eq_1 m x0 x1) ?_
  intro p e s m below meth c s₁ X0 hx hby hml hown hnm hret hlk hZ e0
  replace hown : s.vm.findClass "java/lang/String" = some m.cls := hown
  replace hml : c.maxLocals = 3 := hml
  show Ends p.tables e below _ (s₁.setTop (mkF m 0 #[.val (.ref x0), .val (.ref x1), .unset] []))
  refine own_aloadN X0 hx hby d17_0 rfl rfl rfl ?_
  refine own_aloadN X0 hx hby d17_1 rfl rfl rfl ?_
  refine own_acmp_ne X0 hx hby d17_2 (pcY := 7) (pcN := 5) (by decide) rfl rfl rfl (fun (hc552 : ¬ ((.ref x0) : Value) = (.ref x1)) => ?_) (fun (hc552 : ((.ref x0) : Value) = (.ref x1)) => ?_)
  · -- pc 2: t
    refine own_aloadN X0 hx hby d17_7 rfl rfl rfl ?_
    refine own_instY X0 hx hby hZ hown (hw _ tw_84) e0 (Ins.self E2) d17_8 rfl (fun T553 X553 e553 => ?_)
    show Ends p.tables e below _ (T553.setTop (mkF m 11 #[.val (.ref x0), .val (.ref x1), .unset] [(.int (1 : Int32))]))
    refine own_if_eq X553 hx hby d17_11 (pcY := 54) (pcN := 14) (by decide) rfl (fun (hc554 : (1 : Int32) = (0 : Int32)) => False.elim (by exact absurd hc554 (by decide))) (fun (hc554 : ¬ (1 : Int32) = (0 : Int32)) => ?_)
    refine own_aloadN X553 hx hby d17_14 rfl rfl rfl ?_
    refine own_checkcast X553 hx hby hZ hown (hw _ tw_84) e553 (Ins.self E2) d17_15 rfl (fun T555 X555 e555 => ?_)
    refine own_astoreN X555 hx hby d17_18 rfl #[.val (.ref x0), .val (.ref x1), .val (.ref x1)] rfl rfl ?_
    refine own_getstatic X555 hx hby hZ hown (host := "") (Or.inl (hw _ tw_29)) Via.refl e555 (CS.ext O) d17_19 rfl (fun T556 X556 e556 => ?_)
    refine own_if_eq X556 hx hby d17_22 (pcY := 36) (pcN := 25) (by decide) rfl (fun (hc557 : ks = (0 : Int32)) => False.elim (by exact hks hc557)) (fun (hc557 : ¬ ks = (0 : Int32)) => ?_)
    refine own_aloadN X556 hx hby d17_25 rfl rfl rfl ?_
    refine own_getfield X556 hx hby hZ hown (host := "") (Or.inl (hw _ tw_25)) Via.refl e556 Fc d17_26 rfl (fun T558 X558 e558 => ?_)
    refine own_aloadN X558 hx hby d17_29 rfl rfl rfl ?_
    refine own_getfield X558 hx hby hZ hown (host := "") (Or.inl (hw _ tw_25)) Via.refl e558 Fc2 d17_30 rfl (fun T559 X559 e559 => ?_)
    refine own_icmp_ne X559 hx hby d17_33 (pcY := 54) (pcN := 36) (by decide) rfl (fun (hc560 : ¬ (0 : Int32) = (0 : Int32)) => False.elim (by exact absurd hc560 (by decide))) (fun (hc560 : (0 : Int32) = (0 : Int32)) => ?_)
    refine own_aloadN X559 hx hby d17_36 rfl rfl rfl ?_
    refine own_getfield X559 hx hby hZ hown (host := "") (Or.inl (hw _ tw_24)) Via.refl e559 Fv d17_37 rfl (fun T561 X561 e561 => ?_)
    refine own_aloadN X561 hx hby d17_40 rfl rfl rfl ?_
    refine own_getfield X561 hx hby hZ hown (host := "") (Or.inl (hw _ tw_24)) Via.refl e561 Fv2 d17_41 rfl (fun T562 X562 e562 => ?_)
    refine own_static X562 hx hby hZ (argsL := [(.ref b1), (.ref b2)]) (rest := []) hown (hw _ tw_85) (hw _ tw_86) (hw _ tw_76) (hw _ tw_87) (by decide) (rmle_1 l Z a0 hw b1 b2 h0 Vb Vb2) e562 (by rw [hml]; rfl) pd_16 rfl (by decide) (W := 0) (Nat.le_refl _) (by decide) (by decide) (by decide) d17_44 rfl rfl (fun v563 T563 L563 X563 hQ563 => ?_)
    obtain ⟨rfl, rfl, e563⟩ := hQ563
    show Ends p.tables e below _ (T563.setTop (mkF m 47 #[.val (.ref x0), .val (.ref x1), .val (.ref x1)] [(.int (1 : Int32))]))
    refine own_if_eq X563 hx hby d17_47 (pcY := 54) (pcN := 50) (by decide) rfl (fun (hc564 : (1 : Int32) = (0 : Int32)) => False.elim (by exact absurd hc564 (by decide))) (fun (hc564 : ¬ (1 : Int32) = (0 : Int32)) => ?_)
    refine own_iconst X563 hx hby d17_50 rfl (1 : Int32) rfl ?_
    refine own_goto X563 hx hby d17_51 (pc' := 55) (by decide) ?_
    refine own_ret X563 hx hby hret hlk d17_55 (.int (1 : Int32)) rfl (Or.inl ⟨rfl, by simp, _, rfl⟩) (by decide) (by decide) ?_
    exact ⟨rfl, rfl, e563⟩
  · -- pc 2: f
    refine own_iconst X0 hx hby d17_5 rfl (1 : Int32) rfl ?_
    refine own_ret X0 hx hby hret hlk d17_6 (.int (1 : Int32)) rfl (Or.inl ⟨rfl, by simp, _, rfl⟩) (by decide) (by decide) ?_
    exact ⟨rfl, rfl, e0⟩
set_option maxRecDepth 65536 in
set_option maxHeartbeats 40000000 in
theorem rmeq_2 (l : Launch) (Z : State) (a0 : Array Value) (hw : ∀ d ∈ tables_1, d.before a0 Z = true) (x0 : Addr) (x1 : Addr) (h0 : Heap) {ks : Int32} {fm : Value} (hks : ¬ ks = 0) (hfm : fm.isRef = true) (CS : Sta Z Z.heap "java/lang/String" "COMPACT_STRINGS" "Z" (.int ks)) (FS : Sta Z Z.heap "jdk/internal/util/Preconditions" "SIOOBE_FORMATTER" "Ljava/util/function/BiFunction;" fm) (O : Ext Z.heap h0) {b1 b2 : Addr} {k1 k2 : ClassId} {z0 z1 : Int32} (E : Exa Z h0 x0 "java/lang/String") (Fc : Fld Z h0 x0 "java/lang/String" "coder" "B" (.int 0)) (Fv : Fld Z h0 x0 "java/lang/String" "value" "[B" (.ref b1)) (Vb : Arv Z h0 b1 k1 .byte (2 : Int32) [(.int z0), (.int z1)] (.int 0)) (E2 : Exa Z h0 x1 "java/lang/String") (Fc2 : Fld Z h0 x1 "java/lang/String" "coder" "B" (.int 0)) (Fv2 : Fld Z h0 x1 "java/lang/String" "value" "[B" (.ref b2)) (Vb2 : Arv Z h0 b2 k2 .byte (2 : Int32) [(.int z0), (.int z1)] (.int 0)) :
    OwnMet l Z (⟨"java/lang/String", "equals", "(Ljava/lang/Object;)Z"⟩ : MethodName) jdk_42_method_66_code 3 (some .boolean) [] ({ frames := 1, cells := 0, slots := 0, locals := 14 } : Room) #[(.ref x0), (.ref x1)] h0 (fun v h L => v = some (.int 1) ∧ L = [] ∧ h = h0) := by
  refine own_body (plainFor_of_name pn_0) (fun m => ef_eq_2 m x0 x1) ?_
  intro p e s m below meth c s₁ X0 hx hby hml hown hnm hret hlk hZ e0
  replace hown : s.vm.findClass "java/lang/String" = some m.cls := hown
  replace hml : c.maxLocals = 3 := hml
  show Ends p.tables e below _ (s₁.setTop (mkF m 0 #[.val (.ref x0), .val (.ref x1), .unset] []))
  refine own_aloadN X0 hx hby d17_0 rfl rfl rfl ?_
  refine own_aloadN X0 hx hby d17_1 rfl rfl rfl ?_
  refine own_acmp_ne X0 hx hby d17_2 (pcY := 7) (pcN := 5) (by decide) rfl rfl rfl (fun (hc565 : ¬ ((.ref x0) : Value) = (.ref x1)) => ?_) (fun (hc565 : ((.ref x0) : Value) = (.ref x1)) => ?_)
  · -- pc 2: t
    refine own_aloadN X0 hx hby d17_7 rfl rfl rfl ?_
    refine own_instY X0 hx hby hZ hown (hw _ tw_84) e0 (Ins.self E2) d17_8 rfl (fun T566 X566 e566 => ?_)
    show Ends p.tables e below _ (T566.setTop (mkF m 11 #[.val (.ref x0), .val (.ref x1), .unset] [(.int (1 : Int32))]))
    refine own_if_eq X566 hx hby d17_11 (pcY := 54) (pcN := 14) (by decide) rfl (fun (hc567 : (1 : Int32) = (0 : Int32)) => False.elim (by exact absurd hc567 (by decide))) (fun (hc567 : ¬ (1 : Int32) = (0 : Int32)) => ?_)
    refine own_aloadN X566 hx hby d17_14 rfl rfl rfl ?_
    refine own_checkcast X566 hx hby hZ hown (hw _ tw_84) e566 (Ins.self E2) d17_15 rfl (fun T568 X568 e568 => ?_)
    refine own_astoreN X568 hx hby d17_18 rfl #[.val (.ref x0), .val (.ref x1), .val (.ref x1)] rfl rfl ?_
    refine own_getstatic X568 hx hby hZ hown (host := "") (Or.inl (hw _ tw_29)) Via.refl e568 (CS.ext O) d17_19 rfl (fun T569 X569 e569 => ?_)
    refine own_if_eq X569 hx hby d17_22 (pcY := 36) (pcN := 25) (by decide) rfl (fun (hc570 : ks = (0 : Int32)) => False.elim (by exact hks hc570)) (fun (hc570 : ¬ ks = (0 : Int32)) => ?_)
    refine own_aloadN X569 hx hby d17_25 rfl rfl rfl ?_
    refine own_getfield X569 hx hby hZ hown (host := "") (Or.inl (hw _ tw_25)) Via.refl e569 Fc d17_26 rfl (fun T571 X571 e571 => ?_)
    refine own_aloadN X571 hx hby d17_29 rfl rfl rfl ?_
    refine own_getfield X571 hx hby hZ hown (host := "") (Or.inl (hw _ tw_25)) Via.refl e571 Fc2 d17_30 rfl (fun T572 X572 e572 => ?_)
    refine own_icmp_ne X572 hx hby d17_33 (pcY := 54) (pcN := 36) (by decide) rfl (fun (hc573 : ¬ (0 : Int32) = (0 : Int32)) => False.elim (by exact absurd hc573 (by decide))) (fun (hc573 : (0 : Int32) = (0 : Int32)) => ?_)
    refine own_aloadN X572 hx hby d17_36 rfl rfl rfl ?_
    refine own_getfield X572 hx hby hZ hown (host := "") (Or.inl (hw _ tw_24)) Via.refl e572 Fv d17_37 rfl (fun T574 X574 e574 => ?_)
    refine own_aloadN X574 hx hby d17_40 rfl rfl rfl ?_
    refine own_getfield X574 hx hby hZ hown (host := "") (Or.inl (hw _ tw_24)) Via.refl e574 Fv2 d17_41 rfl (fun T575 X575 e575 => ?_)
    refine own_static X575 hx hby hZ (argsL := [(.ref b1), (.ref b2)]) (rest := []) hown (hw _ tw_85) (hw _ tw_86) (hw _ tw_76) (hw _ tw_87) (by decide) (rmle_2 l Z a0 hw b1 b2 h0 Vb Vb2) e575 (by rw [hml]; rfl) pd_16 rfl (by decide) (W := 0) (Nat.le_refl _) (by decide) (by decide) (by decide) d17_44 rfl rfl (fun v576 T576 L576 X576 hQ576 => ?_)
    obtain ⟨rfl, rfl, e576⟩ := hQ576
    show Ends p.tables e below _ (T576.setTop (mkF m 47 #[.val (.ref x0), .val (.ref x1), .val (.ref x1)] [(.int (1 : Int32))]))
    refine own_if_eq X576 hx hby d17_47 (pcY := 54) (pcN := 50) (by decide) rfl (fun (hc577 : (1 : Int32) = (0 : Int32)) => False.elim (by exact absurd hc577 (by decide))) (fun (hc577 : ¬ (1 : Int32) = (0 : Int32)) => ?_)
    refine own_iconst X576 hx hby d17_50 rfl (1 : Int32) rfl ?_
    refine own_goto X576 hx hby d17_51 (pc' := 55) (by decide) ?_
    refine own_ret X576 hx hby hret hlk d17_55 (.int (1 : Int32)) rfl (Or.inl ⟨rfl, by simp, _, rfl⟩) (by decide) (by decide) ?_
    exact ⟨rfl, rfl, e576⟩
  · -- pc 2: f
    refine own_iconst X0 hx hby d17_5 rfl (1 : Int32) rfl ?_
    refine own_ret X0 hx hby hret hlk d17_6 (.int (1 : Int32)) rfl (Or.inl ⟨rfl, by simp, _, rfl⟩) (by decide) (by decide) ?_
    exact ⟨rfl, rfl, e0⟩
set_option maxRecDepth 65536 in
set_option maxHeartbeats 40000000 in
theorem rmeq_3 (l : Launch) (Z : State) (a0 : Array Value) (hw : ∀ d ∈ tables_1, d.before a0 Z = true) (x0 : Addr) (x1 : Addr) (h0 : Heap) {ks : Int32} {fm : Value} (hks : ¬ ks = 0) (hfm : fm.isRef = true) (CS : Sta Z Z.heap "java/lang/String" "COMPACT_STRINGS" "Z" (.int ks)) (FS : Sta Z Z.heap "jdk/internal/util/Preconditions" "SIOOBE_FORMATTER" "Ljava/util/function/BiFunction;" fm) (O : Ext Z.heap h0) {b1 b2 : Addr} {k1 k2 : ClassId} {z0 z1 z2 : Int32} (E : Exa Z h0 x0 "java/lang/String") (Fc : Fld Z h0 x0 "java/lang/String" "coder" "B" (.int 0)) (Fv : Fld Z h0 x0 "java/lang/String" "value" "[B" (.ref b1)) (Vb : Arv Z h0 b1 k1 .byte (3 : Int32) [(.int z0), (.int z1), (.int z2)] (.int 0)) (E2 : Exa Z h0 x1 "java/lang/String") (Fc2 : Fld Z h0 x1 "java/lang/String" "coder" "B" (.int 0)) (Fv2 : Fld Z h0 x1 "java/lang/String" "value" "[B" (.ref b2)) (Vb2 : Arv Z h0 b2 k2 .byte (3 : Int32) [(.int z0), (.int z1), (.int z2)] (.int 0)) :
    OwnMet l Z (⟨"java/lang/String", "equals", "(Ljava/lang/Object;)Z"⟩ : MethodName) jdk_42_method_66_code 3 (some .boolean) [] ({ frames := 1, cells := 0, slots := 0, locals := 14 } : Room) #[(.ref x0), (.ref x1)] h0 (fun v h L => v = some (.int 1) ∧ L = [] ∧ h = h0) := by
  refine own_body (plainFor_of_name pn_0) (fun m => ef_eq_3 m x0 x1) ?_
  intro p e s m below meth c s₁ X0 hx hby hml hown hnm hret hlk hZ e0
  replace hown : s.vm.findClass "java/lang/String" = some m.cls := hown
  replace hml : c.maxLocals = 3 := hml
  show Ends p.tables e below _ (s₁.setTop (mkF m 0 #[.val (.ref x0), .val (.ref x1), .unset] []))
  refine own_aloadN X0 hx hby d17_0 rfl rfl rfl ?_
  refine own_aloadN X0 hx hby d17_1 rfl rfl rfl ?_
  refine own_acmp_ne X0 hx hby d17_2 (pcY := 7) (pcN := 5) (by decide) rfl rfl rfl (fun (hc578 : ¬ ((.ref x0) : Value) = (.ref x1)) => ?_) (fun (hc578 : ((.ref x0) : Value) = (.ref x1)) => ?_)
  · -- pc 2: t
    refine own_aloadN X0 hx hby d17_7 rfl rfl rfl ?_
    refine own_instY X0 hx hby hZ hown (hw _ tw_84) e0 (Ins.self E2) d17_8 rfl (fun T579 X579 e579 => ?_)
    show Ends p.tables e below _ (T579.setTop (mkF m 11 #[.val (.ref x0), .val (.ref x1), .unset] [(.int (1 : Int32))]))
    refine own_if_eq X579 hx hby d17_11 (pcY := 54) (pcN := 14) (by decide) rfl (fun (hc580 : (1 : Int32) = (0 : Int32)) => False.elim (by exact absurd hc580 (by decide))) (fun (hc580 : ¬ (1 : Int32) = (0 : Int32)) => ?_)
    refine own_aloadN X579 hx hby d17_14 rfl rfl rfl ?_
    refine own_checkcast X579 hx hby hZ hown (hw _ tw_84) e579 (Ins.self E2) d17_15 rfl (fun T581 X581 e581 => ?_)
    refine own_astoreN X581 hx hby d17_18 rfl #[.val (.ref x0), .val (.ref x1), .val (.ref x1)] rfl rfl ?_
    refine own_getstatic X581 hx hby hZ hown (host := "") (Or.inl (hw _ tw_29)) Via.refl e581 (CS.ext O) d17_19 rfl (fun T582 X582 e582 => ?_)
    refine own_if_eq X582 hx hby d17_22 (pcY := 36) (pcN := 25) (by decide) rfl (fun (hc583 : ks = (0 : Int32)) => False.elim (by exact hks hc583)) (fun (hc583 : ¬ ks = (0 : Int32)) => ?_)
    refine own_aloadN X582 hx hby d17_25 rfl rfl rfl ?_
    refine own_getfield X582 hx hby hZ hown (host := "") (Or.inl (hw _ tw_25)) Via.refl e582 Fc d17_26 rfl (fun T584 X584 e584 => ?_)
    refine own_aloadN X584 hx hby d17_29 rfl rfl rfl ?_
    refine own_getfield X584 hx hby hZ hown (host := "") (Or.inl (hw _ tw_25)) Via.refl e584 Fc2 d17_30 rfl (fun T585 X585 e585 => ?_)
    refine own_icmp_ne X585 hx hby d17_33 (pcY := 54) (pcN := 36) (by decide) rfl (fun (hc586 : ¬ (0 : Int32) = (0 : Int32)) => False.elim (by exact absurd hc586 (by decide))) (fun (hc586 : (0 : Int32) = (0 : Int32)) => ?_)
    refine own_aloadN X585 hx hby d17_36 rfl rfl rfl ?_
    refine own_getfield X585 hx hby hZ hown (host := "") (Or.inl (hw _ tw_24)) Via.refl e585 Fv d17_37 rfl (fun T587 X587 e587 => ?_)
    refine own_aloadN X587 hx hby d17_40 rfl rfl rfl ?_
    refine own_getfield X587 hx hby hZ hown (host := "") (Or.inl (hw _ tw_24)) Via.refl e587 Fv2 d17_41 rfl (fun T588 X588 e588 => ?_)
    refine own_static X588 hx hby hZ (argsL := [(.ref b1), (.ref b2)]) (rest := []) hown (hw _ tw_85) (hw _ tw_86) (hw _ tw_76) (hw _ tw_87) (by decide) (rmle_3 l Z a0 hw b1 b2 h0 Vb Vb2) e588 (by rw [hml]; rfl) pd_16 rfl (by decide) (W := 0) (Nat.le_refl _) (by decide) (by decide) (by decide) d17_44 rfl rfl (fun v589 T589 L589 X589 hQ589 => ?_)
    obtain ⟨rfl, rfl, e589⟩ := hQ589
    show Ends p.tables e below _ (T589.setTop (mkF m 47 #[.val (.ref x0), .val (.ref x1), .val (.ref x1)] [(.int (1 : Int32))]))
    refine own_if_eq X589 hx hby d17_47 (pcY := 54) (pcN := 50) (by decide) rfl (fun (hc590 : (1 : Int32) = (0 : Int32)) => False.elim (by exact absurd hc590 (by decide))) (fun (hc590 : ¬ (1 : Int32) = (0 : Int32)) => ?_)
    refine own_iconst X589 hx hby d17_50 rfl (1 : Int32) rfl ?_
    refine own_goto X589 hx hby d17_51 (pc' := 55) (by decide) ?_
    refine own_ret X589 hx hby hret hlk d17_55 (.int (1 : Int32)) rfl (Or.inl ⟨rfl, by simp, _, rfl⟩) (by decide) (by decide) ?_
    exact ⟨rfl, rfl, e589⟩
  · -- pc 2: f
    refine own_iconst X0 hx hby d17_5 rfl (1 : Int32) rfl ?_
    refine own_ret X0 hx hby hret hlk d17_6 (.int (1 : Int32)) rfl (Or.inl ⟨rfl, by simp, _, rfl⟩) (by decide) (by decide) ?_
    exact ⟨rfl, rfl, e0⟩
set_option maxRecDepth 65536 in
set_option maxHeartbeats 40000000 in
theorem rm0 (l : Launch) (Z : State) (a0 : Array Value) (hw : ∀ d ∈ tables_1, d.before a0 Z = true) (x0 : Int32) (x1 : Int32) (x2 : Int32) (x3 : Int32) (h0 : Heap) (n0 : Nat) (hEL : EW Z a0 consts_1) {ks : Int32} {fm : Value} (hks : ¬ ks = 0) (hfm : fm.isRef = true) (CS : Sta Z Z.heap "java/lang/String" "COMPACT_STRINGS" "Z" (.int ks)) (FS : Sta Z Z.heap "jdk/internal/util/Preconditions" "SIOOBE_FORMATTER" "Ljava/util/function/BiFunction;" fm) (O : Old Z n0 h0) :
    OwnMetH l Z consts_1 [] x code maxLocals ret tables_1 room_1 #[(.int x0), (.int x1), (.int x2), (.int x3)] h0 (fun v h L => v = some (.int 1) ∧ Fr n0 L) := by
  refine own_bodyH (plainFor_of_name pn_3) (fun m => ef_0 m x0 x1 x2 x3) ?_
  intro p e s m below meth c s₁ X0 hx hby hml hown hnm hret hlk hZ e0 eh hS hH hxs
  replace hown : (s.setVm s.vm).vm.findClass "com/example/portunus/portunus/io/InvalidationDirectoryOfPinLaw" = some m.cls := hown
  replace hml : c.maxLocals = 11 := hml
  have N0 := Fr.nil n0
  show Ends p.tables e below _ (s₁.setTop (mkF m 0 #[.val (.int x0), .val (.int x1), .val (.int x2), .val (.int x3), .unset, .unset, .unset, .unset, .unset, .unset, .unset] []))
  refine own_iloadN X0 hx hby at_0 rfl rfl ?_
  refine own_iconst X0 hx hby at_1 rfl (3 : Int32) rfl ?_
  refine own_iand X0 hx hby at_2 rfl ?_
  refine own_istore X0 hx hby at_3 rfl #[.val (.int x0), .val (.int x1), .val (.int x2), .val (.int x3), .val (.int (x0 &&& (3 : Int32))), .unset, .unset, .unset, .unset, .unset, .unset] rfl ?_
  rcases own_n4 x0 with hz | hz | hz | hz
  · -- 0
    rw [hz]
    show Ends p.tables e below _ (s₁.setTop (mkF m 5 #[.val (.int x0), .val (.int x1), .val (.int x2), .val (.int x3), .val (.int (0 : Int32)), .unset, .unset, .unset, .unset, .unset, .unset] []))
    refine own_iloadN X0 hx hby at_5 rfl rfl ?_
    refine own_sipush X0 hx hby at_6 rfl (255 : Int32) rfl ?_
    refine own_iand X0 hx hby at_9 rfl ?_
    refine own_i2c X0 hx hby at_10 rfl ?_
    refine own_istore X0 hx hby at_11 rfl #[.val (.int x0), .val (.int x1), .val (.int x2), .val (.int x3), .val (.int (0 : Int32)), .val (.int (x1 &&& (255 : Int32)).toUInt32.toUInt16.toUInt32.toInt32), .unset, .unset, .unset, .unset, .unset] rfl ?_
    refine own_iloadN X0 hx hby at_13 rfl rfl ?_
    refine own_sipush X0 hx hby at_14 rfl (255 : Int32) rfl ?_
    refine own_iand X0 hx hby at_17 rfl ?_
    refine own_i2c X0 hx hby at_18 rfl ?_
    refine own_istore X0 hx hby at_19 rfl #[.val (.int x0), .val (.int x1), .val (.int x2), .val (.int x3), .val (.int (0 : Int32)), .val (.int (x1 &&& (255 : Int32)).toUInt32.toUInt16.toUInt32.toInt32), .val (.int (x2 &&& (255 : Int32)).toUInt32.toUInt16.toUInt32.toInt32), .unset, .unset, .unset, .unset] rfl ?_
    refine own_iloadN X0 hx hby at_21 rfl rfl ?_
    refine own_sipush X0 hx hby at_22 rfl (255 : Int32) rfl ?_
    refine own_iand X0 hx hby at_25 rfl ?_
    refine own_i2c X0 hx hby at_26 rfl ?_
    refine own_istore X0 hx hby at_27 rfl #[.val (.int x0), .val (.int x1), .val (.int x2), .val (.int x3), .val (.int (0 : Int32)), .val (.int (x1 &&& (255 : Int32)).toUInt32.toUInt16.toUInt32.toInt32), .val (.int (x2 &&& (255 : Int32)).toUInt32.toUInt16.toUInt32.toInt32), .val (.int (x3 &&& (255 : Int32)).toUInt32.toUInt16.toUInt32.toInt32), .unset, .unset, .unset] rfl ?_
    refine own_iload X0 hx hby at_29 rfl rfl ?_
    refine own_iload X0 hx hby at_31 rfl rfl ?_
    refine own_iload X0 hx hby at_33 rfl rfl ?_
    refine own_iload X0 hx hby at_35 rfl rfl ?_
    have f592 := (CHr.refl hH)
    refine own_staticH X0 hx hby hZ (argsL := [(.int (0 : Int32)), (.int (x1 &&& (255 : Int32)).toUInt32.toUInt16.toUInt32.toInt32), (.int (x2 &&& (255 : Int32)).toUInt32.toUInt16.toUInt32.toInt32), (.int (x3 &&& (255 : Int32)).toUInt32.toUInt16.toUInt32.toInt32)]) (rest := []) hown (hw _ tw_0) (hw _ tw_1) (hw _ tw_2) (hw _ tw_3) (by decide) (rmpl_0 l Z a0 hw (x1 &&& (255 : Int32)).toUInt32.toUInt16.toUInt32.toInt32 (x2 &&& (255 : Int32)).toUInt32.toUInt16.toUInt32.toInt32 (x3 &&& (255 : Int32)).toUInt32.toUInt16.toUInt32.toInt32 h0 n0 hEL O hks hfm CS FS (own_nc x1) (own_fc x1) (own_mc x1) (own_nc x2) (own_fc x2) (own_mc x2) (own_nc x3) (own_fc x3) (own_mc x3)) e0 hS (Nat.le_refl _) hEL f592.1 (fun _ q => nomatch q) (by rw [hml]; rfl) pd_17 rfl (by decide) (W := 0) (Nat.le_refl _) (by decide) (by decide) (by decide) at_37 rfl rfl (fun v591 T591 L591 X591 hS hZ hown hR591 hQ591 => ?_)
    obtain ⟨a591, b591, k591, rfl, N591q, K591, A591, B591, D591, V591⟩ := hQ591
    show Ends p.tables e below _ (T591.setTop (mkF m 40 #[.val (.int x0), .val (.int x1), .val (.int x2), .val (.int x3), .val (.int (0 : Int32)), .val (.int (x1 &&& (255 : Int32)).toUInt32.toUInt16.toUInt32.toInt32), .val (.int (x2 &&& (255 : Int32)).toUInt32.toUInt16.toUInt32.toInt32), .val (.int (x3 &&& (255 : Int32)).toUInt32.toUInt16.toUInt32.toInt32), .unset, .unset, .unset] [(.ref a591)]))
    refine own_astore X591 hx hby at_40 rfl #[.val (.int x0), .val (.int x1), .val (.int x2), .val (.int x3), .val (.int (0 : Int32)), .val (.int (x1 &&& (255 : Int32)).toUInt32.toUInt16.toUInt32.toInt32), .val (.int (x2 &&& (255 : Int32)).toUInt32.toUInt16.toUInt32.toInt32), .val (.int (x3 &&& (255 : Int32)).toUInt32.toUInt16.toUInt32.toInt32), .val (.ref a591), .unset, .unset] rfl rfl ?_
    refine own_iload X591 hx hby at_42 rfl rfl ?_
    refine own_iload X591 hx hby at_44 rfl rfl ?_
    refine own_iload X591 hx hby at_46 rfl rfl ?_
    refine own_iload X591 hx hby at_48 rfl rfl ?_
    have f594 := (O.keep K591 all0)
    refine own_static X591 hx hby hZ (argsL := [(.int (0 : Int32)), (.int (x1 &&& (255 : Int32)).toUInt32.toUInt16.toUInt32.toInt32), (.int (x2 &&& (255 : Int32)).toUInt32.toUInt16.toUInt32.toInt32), (.int (x3 &&& (255 : Int32)).toUInt32.toUInt16.toUInt32.toInt32)]) (rest := []) hown (hw _ tw_26) (hw _ tw_27) (hw _ tw_2) (hw _ tw_28) (by decide) (rmws_0 l Z a0 hw (x1 &&& (255 : Int32)).toUInt32.toUInt16.toUInt32.toInt32 (x2 &&& (255 : Int32)).toUInt32.toUInt16.toUInt32.toInt32 (x3 &&& (255 : Int32)).toUInt32.toUInt16.toUInt32.toInt32 T591.heap n0 f594 hks hfm CS FS (own_nc x1) (own_fc x1) (own_mc x1) (own_nc x2) (own_fc x2) (own_mc x2) (own_nc x3) (own_fc x3) (own_mc x3)) rfl (by rw [hml]; rfl) pd_17 rfl (by decide) (W := 0) (Nat.le_refl _) (by decide) (by decide) (by decide) at_50 rfl rfl (fun v593 T593 L593 X593 hQ593 => ?_)
    obtain ⟨a593, b593, k593, rfl, N593q, K593, A593, B593, D593, V593⟩ := hQ593
    show Ends p.tables e below _ (T593.setTop (mkF m 53 #[.val (.int x0), .val (.int x1), .val (.int x2), .val (.int x3), .val (.int (0 : Int32)), .val (.int (x1 &&& (255 : Int32)).toUInt32.toUInt16.toUInt32.toInt32), .val (.int (x2 &&& (255 : Int32)).toUInt32.toUInt16.toUInt32.toInt32), .val (.int (x3 &&& (255 : Int32)).toUInt32.toUInt16.toUInt32.toInt32), .val (.ref a591), .unset, .unset] [(.ref a593)]))
    refine own_astore X593 hx hby at_53 rfl #[.val (.int x0), .val (.int x1), .val (.int x2), .val (.int x3), .val (.int (0 : Int32)), .val (.int (x1 &&& (255 : Int32)).toUInt32.toUInt16.toUInt32.toInt32), .val (.int (x2 &&& (255 : Int32)).toUInt32.toUInt16.toUInt32.toInt32), .val (.int (x3 &&& (255 : Int32)).toUInt32.toUInt16.toUInt32.toInt32), .val (.ref a591), .val (.ref a593), .unset] rfl rfl ?_
    refine own_aload X593 hx hby at_55 rfl rfl rfl ?_
    have f596 := (f594.keep K593 all0)
    have f597 := (own_Rk (f592.trans hR591) K593 all0)
    have f598 := (Nat.le_trans (Nat.le_refl _) K593.1)
    refine own_staticH X593 hx hby hZ (argsL := [(.ref a593)]) (rest := []) hown (hw _ tw_40) (hw _ tw_41) (hw _ tw_42) (hw _ tw_43) (by decide) (rmdi_0 l Z a0 hw a593 T593.heap n0 hEL hks hfm CS FS f596 A593 B593 D593 V593) rfl hS f598 hEL f597.1 (fun _ q => nomatch q) (by rw [hml]; rfl) pd_18 rfl (by decide) (W := 0) (Nat.le_refl _) (by decide) (by decide) (by decide) at_57 rfl rfl (fun v595 T595 L595 X595 hS hZ hown hR595 hQ595 => ?_)
    obtain ⟨a595, b595, k595, rfl, N595q, K595, A595, B595, D595, V595⟩ := hQ595
    show Ends p.tables e below _ (T595.setTop (mkF m 60 #[.val (.int x0), .val (.int x1), .val (.int x2), .val (.int x3), .val (.int (0 : Int32)), .val (.int (x1 &&& (255 : Int32)).toUInt32.toUInt16.toUInt32.toInt32), .val (.int (x2 &&& (255 : Int32)).toUInt32.toUInt16.toUInt32.toInt32), .val (.int (x3 &&& (255 : Int32)).toUInt32.toUInt16.toUInt32.toInt32), .val (.ref a591), .val (.ref a593), .unset] [(.ref a595)]))
    refine own_astore X595 hx hby at_60 rfl #[.val (.int x0), .val (.int x1), .val (.int x2), .val (.int x3), .val (.int (0 : Int32)), .val (.int (x1 &&& (255 : Int32)).toUInt32.toUInt16.toUInt32.toInt32), .val (.int (x2 &&& (255 : Int32)).toUInt32.toUInt16.toUInt32.toInt32), .val (.int (x3 &&& (255 : Int32)).toUInt32.toUInt16.toUInt32.toInt32), .val (.ref a591), .val (.ref a593), .val (.ref a595)] rfl rfl ?_
    refine own_aload X595 hx hby at_62 rfl rfl rfl ?_
    refine own_aload X595 hx hby at_64 rfl rfl rfl ?_
    have f600 := (f596.keep K595 all0)
    have f601 := ((A591.keep K593).keep K595)
    have f602 := ((B591.keep K593 nin0).keep K595 nin0)
    have f603 := ((D591.keep K593 nin0).keep K595 nin0)
    have f604 := ((V591.keep K593 nin0).keep K595 nin0)
    refine own_virtual X595 hx hby hZ (Cn := "java/lang/String") (a := a595) (argsL := [(.ref a591)]) (rest := []) hown (hw _ tw_79) (hw _ tw_80) (hw _ tw_82) (hw _ tw_81) (hw _ tw_6) (hw _ tw_83) (by decide) (rmeq_0 l Z a0 hw a595 a591 T595.heap hks hfm CS FS (f600).2 A595 B595 D595 V595 f601 f602 f603 f604) A595 rfl (by rw [hml]; rfl) pd_19 rfl (by decide) (W := 0) (Nat.le_refl _) (by decide) (by decide) (by decide) at_66 rfl rfl (fun v599 T599 L599 X599 hQ599 => ?_)
    obtain ⟨rfl, rfl, e599⟩ := hQ599
    show Ends p.tables e below _ (T599.setTop (mkF m 69 #[.val (.int x0), .val (.int x1), .val (.int x2), .val (.int x3), .val (.int (0 : Int32)), .val (.int (x1 &&& (255 : Int32)).toUInt32.toUInt16.toUInt32.toInt32), .val (.int (x2 &&& (255 : Int32)).toUInt32.toUInt16.toUInt32.toInt32), .val (.int (x3 &&& (255 : Int32)).toUInt32.toUInt16.toUInt32.toInt32), .val (.ref a591), .val (.ref a593), .val (.ref a595)] [(.int (1 : Int32))]))
    have f605 := (f597.trans hR595)
    refine own_retH X599 hx hby hret hlk at_69 (.int (1 : Int32)) rfl (Or.inl ⟨rfl, by simp, _, rfl⟩) hZ hEL (by rw [show T599.heap = _ from e599, show s.heap = _ from eh]; exact f605) hS (by rw [show T599.heap = _ from e599]; exact (Nat.le_refl _)) (by decide) (by decide) ?_
    exact ⟨rfl, (Fr.app (Fr.app (Fr.app (Fr.app N0 N591q) N593q) N595q) (Fr.nil _))⟩
  · -- 1
    rw [hz]
    show Ends p.tables e below _ (s₁.setTop (mkF m 5 #[.val (.int x0), .val (.int x1), .val (.int x2), .val (.int x3), .val (.int (1 : Int32)), .unset, .unset, .unset, .unset, .unset, .unset] []))
    refine own_iloadN X0 hx hby at_5 rfl rfl ?_
    refine own_sipush X0 hx hby at_6 rfl (255 : Int32) rfl ?_
    refine own_iand X0 hx hby at_9 rfl ?_
    refine own_i2c X0 hx hby at_10 rfl ?_
    refine own_istore X0 hx hby at_11 rfl #[.val (.int x0), .val (.int x1), .val (.int x2), .val (.int x3), .val (.int (1 : Int32)), .val (.int (x1 &&& (255 : Int32)).toUInt32.toUInt16.toUInt32.toInt32), .unset, .unset, .unset, .unset, .unset] rfl ?_
    refine own_iloadN X0 hx hby at_13 rfl rfl ?_
    refine own_sipush X0 hx hby at_14 rfl (255 : Int32) rfl ?_
    refine own_iand X0 hx hby at_17 rfl ?_
    refine own_i2c X0 hx hby at_18 rfl ?_
    refine own_istore X0 hx hby at_19 rfl #[.val (.int x0), .val (.int x1), .val (.int x2), .val (.int x3), .val (.int (1 : Int32)), .val (.int (x1 &&& (255 : Int32)).toUInt32.toUInt16.toUInt32.toInt32), .val (.int (x2 &&& (255 : Int32)).toUInt32.toUInt16.toUInt32.toInt32), .unset, .unset, .unset, .unset] rfl ?_
    refine own_iloadN X0 hx hby at_21 rfl rfl ?_
    refine own_sipush X0 hx hby at_22 rfl (255 : Int32) rfl ?_
    refine own_iand X0 hx hby at_25 rfl ?_
    refine own_i2c X0 hx hby at_26 rfl ?_
    refine own_istore X0 hx hby at_27 rfl #[.val (.int x0), .val (.int x1), .val (.int x2), .val (.int x3), .val (.int (1 : Int32)), .val (.int (x1 &&& (255 : Int32)).toUInt32.toUInt16.toUInt32.toInt32), .val (.int (x2 &&& (255 : Int32)).toUInt32.toUInt16.toUInt32.toInt32), .val (.int (x3 &&& (255 : Int32)).toUInt32.toUInt16.toUInt32.toInt32), .unset, .unset, .unset] rfl ?_
    refine own_iload X0 hx hby at_29 rfl rfl ?_
    refine own_iload X0 hx hby at_31 rfl rfl ?_
    refine own_iload X0 hx hby at_33 rfl rfl ?_
    refine own_iload X0 hx hby at_35 rfl rfl ?_
    refine own_static X0 hx hby hZ (argsL := [(.int (1 : Int32)), (.int (x1 &&& (255 : Int32)).toUInt32.toUInt16.toUInt32.toInt32), (.int (x2 &&& (255 : Int32)).toUInt32.toUInt16.toUInt32.toInt32), (.int (x3 &&& (255 : Int32)).toUInt32.toUInt16.toUInt32.toInt32)]) (rest := []) hown (hw _ tw_0) (hw _ tw_1) (hw _ tw_2) (hw _ tw_3) (by decide) (rmpl_1 l Z a0 hw (x1 &&& (255 : Int32)).toUInt32.toUInt16.toUInt32.toInt32 (x2 &&& (255 : Int32)).toUInt32.toUInt16.toUInt32.toInt32 (x3 &&& (255 : Int32)).toUInt32.toUInt16.toUInt32.toInt32 h0 n0 O hks hfm CS FS (own_nc x1) (own_fc x1) (own_mc x1) (own_nc x2) (own_fc x2) (own_mc x2) (own_nc x3) (own_fc x3) (own_mc x3)) e0 (by rw [hml]; rfl) pd_17 rfl (by decide) (W := 0) (Nat.le_refl _) (by decide) (by decide) (by decide) at_37 rfl rfl (fun v606 T606 L606 X606 hQ606 => ?_)
    obtain ⟨a606, b606, k606, rfl, N606q, K606, A606, B606, D606, V606⟩ := hQ606
    show Ends p.tables e below _ (T606.setTop (mkF m 40 #[.val (.int x0), .val (.int x1), .val (.int x2), .val (.int x3), .val (.int (1 : Int32)), .val (.int (x1 &&& (255 : Int32)).toUInt32.toUInt16.toUInt32.toInt32), .val (.int (x2 &&& (255 : Int32)).toUInt32.toUInt16.toUInt32.toInt32), .val (.int (x3 &&& (255 : Int32)).toUInt32.toUInt16.toUInt32.toInt32), .unset, .unset, .unset] [(.ref a606)]))
    refine own_astore X606 hx hby at_40 rfl #[.val (.int x0), .val (.int x1), .val (.int x2), .val (.int x3), .val (.int (1 : Int32)), .val (.int (x1 &&& (255 : Int32)).toUInt32.toUInt16.toUInt32.toInt32), .val (.int (x2 &&& (255 : Int32)).toUInt32.toUInt16.toUInt32.toInt32), .val (.int (x3 &&& (255 : Int32)).toUInt32.toUInt16.toUInt32.toInt32), .val (.ref a606), .unset, .unset] rfl rfl ?_
    refine own_iload X606 hx hby at_42 rfl rfl ?_
    refine own_iload X606 hx hby at_44 rfl rfl ?_
    refine own_iload X606 hx hby at_46 rfl rfl ?_
    refine own_iload X606 hx hby at_48 rfl rfl ?_
    have f608 := (O.keep K606 all0)
    refine own_static X606 hx hby hZ (argsL := [(.int (1 : Int32)), (.int (x1 &&& (255 : Int32)).toUInt32.toUInt16.toUInt32.toInt32), (.int (x2 &&& (255 : Int32)).toUInt32.toUInt16.toUInt32.toInt32), (.int (x3 &&& (255 : Int32)).toUInt32.toUInt16.toUInt32.toInt32)]) (rest := []) hown (hw _ tw_26) (hw _ tw_27) (hw _ tw_2) (hw _ tw_28) (by decide) (rmws_1 l Z a0 hw (x1 &&& (255 : Int32)).toUInt32.toUInt16.toUInt32.toInt32 (x2 &&& (255 : Int32)).toUInt32.toUInt16.toUInt32.toInt32 (x3 &&& (255 : Int32)).toUInt32.toUInt16.toUInt32.toInt32 T606.heap n0 f608 hks hfm CS FS (own_nc x1) (own_fc x1) (own_mc x1) (own_nc x2) (own_fc x2) (own_mc x2) (own_nc x3) (own_fc x3) (own_mc x3)) rfl (by rw [hml]; rfl) pd_17 rfl (by decide) (W := 0) (Nat.le_refl _) (by decide) (by decide) (by decide) at_50 rfl rfl (fun v607 T607 L607 X607 hQ607 => ?_)
    obtain ⟨a607, b607, k607, rfl, N607q, K607, A607, B607, D607, V607⟩ := hQ607
    show Ends p.tables e below _ (T607.setTop (mkF m 53 #[.val (.int x0), .val (.int x1), .val (.int x2), .val (.int x3), .val (.int (1 : Int32)), .val (.int (x1 &&& (255 : Int32)).toUInt32.toUInt16.toUInt32.toInt32), .val (.int (x2 &&& (255 : Int32)).toUInt32.toUInt16.toUInt32.toInt32), .val (.int (x3 &&& (255 : Int32)).toUInt32.toUInt16.toUInt32.toInt32), .val (.ref a606), .unset, .unset] [(.ref a607)]))
    refine own_astore X607 hx hby at_53 rfl #[.val (.int x0), .val (.int x1), .val (.int x2), .val (.int x3), .val (.int (1 : Int32)), .val (.int (x1 &&& (255 : Int32)).toUInt32.toUInt16.toUInt32.toInt32), .val (.int (x2 &&& (255 : Int32)).toUInt32.toUInt16.toUInt32.toInt32), .val (.int (x3 &&& (255 : Int32)).toUInt32.toUInt16.toUInt32.toInt32), .val (.ref a606), .val (.ref a607), .unset] rfl rfl ?_
    refine own_aload X607 hx hby at_55 rfl rfl rfl ?_
    have f610 := (f608.keep K607 all0)
    have f611 := (own_Rk (own_Rk (CHr.refl hH) K606 all0) K607 all0)
    have f612 := (Nat.le_trans (Nat.le_trans (Nat.le_refl _) K606.1) K607.1)
    refine own_staticH X607 hx hby hZ (argsL := [(.ref a607)]) (rest := []) hown (hw _ tw_40) (hw _ tw_41) (hw _ tw_42) (hw _ tw_43) (by decide) (rmdi_1 l Z a0 hw a607 T607.heap n0 hEL hks hfm CS FS f610 A607 B607 D607 V607) rfl hS f612 hEL f611.1 (fun _ q => nomatch q) (by rw [hml]; rfl) pd_18 rfl (by decide) (W := 0) (Nat.le_refl _) (by decide) (by decide) (by decide) at_57 rfl rfl (fun v609 T609 L609 X609 hS hZ hown hR609 hQ609 => ?_)
    obtain ⟨a609, b609, k609, rfl, N609q, K609, A609, B609, D609, V609⟩ := hQ609
    show Ends p.tables e below _ (T609.setTop (mkF m 60 #[.val (.int x0), .val (.int x1), .val (.int x2), .val (.int x3), .val (.int (1 : Int32)), .val (.int (x1 &&& (255 : Int32)).toUInt32.toUInt16.toUInt32.toInt32), .val (.int (x2 &&& (255 : Int32)).toUInt32.toUInt16.toUInt32.toInt32), .val (.int (x3 &&& (255 : Int32)).toUInt32.toUInt16.toUInt32.toInt32), .val (.ref a606), .val (.ref a607), .unset] [(.ref a609)]))
    refine own_astore X609 hx hby at_60 rfl #[.val (.int x0), .val (.int x1), .val (.int x2), .val (.int x3), .val (.int (1 : Int32)), .val (.int (x1 &&& (255 : Int32)).toUInt32.toUInt16.toUInt32.toInt32), .val (.int (x2 &&& (255 : Int32)).toUInt32.toUInt16.toUInt32.toInt32), .val (.int (x3 &&& (255 : Int32)).toUInt32.toUInt16.toUInt32.toInt32), .val (.ref a606), .val (.ref a607), .val (.ref a609)] rfl rfl ?_
    refine own_aload X609 hx hby at_62 rfl rfl rfl ?_
    refine own_aload X609 hx hby at_64 rfl rfl rfl ?_
    have f614 := (f610.keep K609 all0)
    have f615 := ((A606.keep K607).keep K609)
    have f616 := ((B606.keep K607 nin0).keep K609 nin0)
    have f617 := ((D606.keep K607 nin0).keep K609 nin0)
    have f618 := ((V606.keep K607 nin0).keep K609 nin0)
    refine own_virtual X609 hx hby hZ (Cn := "java/lang/String") (a := a609) (argsL := [(.ref a606)]) (rest := []) hown (hw _ tw_79) (hw _ tw_80) (hw _ tw_82) (hw _ tw_81) (hw _ tw_6) (hw _ tw_83) (by decide) (rmeq_1 l Z a0 hw a609 a606 T609.heap hks hfm CS FS (f614).2 A609 B609 D609 V609 f615 f616 f617 f618) A609 rfl (by rw [hml]; rfl) pd_19 rfl (by decide) (W := 0) (Nat.le_refl _) (by decide) (by decide) (by decide) at_66 rfl rfl (fun v613 T613 L613 X613 hQ613 => ?_)
    obtain ⟨rfl, rfl, e613⟩ := hQ613
    show Ends p.tables e below _ (T613.setTop (mkF m 69 #[.val (.int x0), .val (.int x1), .val (.int x2), .val (.int x3), .val (.int (1 : Int32)), .val (.int (x1 &&& (255 : Int32)).toUInt32.toUInt16.toUInt32.toInt32), .val (.int (x2 &&& (255 : Int32)).toUInt32.toUInt16.toUInt32.toInt32), .val (.int (x3 &&& (255 : Int32)).toUInt32.toUInt16.toUInt32.toInt32), .val (.ref a606), .val (.ref a607), .val (.ref a609)] [(.int (1 : Int32))]))
    have f619 := (f611.trans hR609)
    refine own_retH X613 hx hby hret hlk at_69 (.int (1 : Int32)) rfl (Or.inl ⟨rfl, by simp, _, rfl⟩) hZ hEL (by rw [show T613.heap = _ from e613, show s.heap = _ from eh]; exact f619) hS (by rw [show T613.heap = _ from e613]; exact (Nat.le_refl _)) (by decide) (by decide) ?_
    exact ⟨rfl, (Fr.app (Fr.app (Fr.app (Fr.app N0 N606q) N607q) N609q) (Fr.nil _))⟩
  · -- 2
    rw [hz]
    show Ends p.tables e below _ (s₁.setTop (mkF m 5 #[.val (.int x0), .val (.int x1), .val (.int x2), .val (.int x3), .val (.int (2 : Int32)), .unset, .unset, .unset, .unset, .unset, .unset] []))
    refine own_iloadN X0 hx hby at_5 rfl rfl ?_
    refine own_sipush X0 hx hby at_6 rfl (255 : Int32) rfl ?_
    refine own_iand X0 hx hby at_9 rfl ?_
    refine own_i2c X0 hx hby at_10 rfl ?_
    refine own_istore X0 hx hby at_11 rfl #[.val (.int x0), .val (.int x1), .val (.int x2), .val (.int x3), .val (.int (2 : Int32)), .val (.int (x1 &&& (255 : Int32)).toUInt32.toUInt16.toUInt32.toInt32), .unset, .unset, .unset, .unset, .unset] rfl ?_
    refine own_iloadN X0 hx hby at_13 rfl rfl ?_
    refine own_sipush X0 hx hby at_14 rfl (255 : Int32) rfl ?_
    refine own_iand X0 hx hby at_17 rfl ?_
    refine own_i2c X0 hx hby at_18 rfl ?_
    refine own_istore X0 hx hby at_19 rfl #[.val (.int x0), .val (.int x1), .val (.int x2), .val (.int x3), .val (.int (2 : Int32)), .val (.int (x1 &&& (255 : Int32)).toUInt32.toUInt16.toUInt32.toInt32), .val (.int (x2 &&& (255 : Int32)).toUInt32.toUInt16.toUInt32.toInt32), .unset, .unset, .unset, .unset] rfl ?_
    refine own_iloadN X0 hx hby at_21 rfl rfl ?_
    refine own_sipush X0 hx hby at_22 rfl (255 : Int32) rfl ?_
    refine own_iand X0 hx hby at_25 rfl ?_
    refine own_i2c X0 hx hby at_26 rfl ?_
    refine own_istore X0 hx hby at_27 rfl #[.val (.int x0), .val (.int x1), .val (.int x2), .val (.int x3), .val (.int (2 : Int32)), .val (.int (x1 &&& (255 : Int32)).toUInt32.toUInt16.toUInt32.toInt32), .val (.int (x2 &&& (255 : Int32)).toUInt32.toUInt16.toUInt32.toInt32), .val (.int (x3 &&& (255 : Int32)).toUInt32.toUInt16.toUInt32.toInt32), .unset, .unset, .unset] rfl ?_
    refine own_iload X0 hx hby at_29 rfl rfl ?_
    refine own_iload X0 hx hby at_31 rfl rfl ?_
    refine own_iload X0 hx hby at_33 rfl rfl ?_
    refine own_iload X0 hx hby at_35 rfl rfl ?_
    refine own_static X0 hx hby hZ (argsL := [(.int (2 : Int32)), (.int (x1 &&& (255 : Int32)).toUInt32.toUInt16.toUInt32.toInt32), (.int (x2 &&& (255 : Int32)).toUInt32.toUInt16.toUInt32.toInt32), (.int (x3 &&& (255 : Int32)).toUInt32.toUInt16.toUInt32.toInt32)]) (rest := []) hown (hw _ tw_0) (hw _ tw_1) (hw _ tw_2) (hw _ tw_3) (by decide) (rmpl_2 l Z a0 hw (x1 &&& (255 : Int32)).toUInt32.toUInt16.toUInt32.toInt32 (x2 &&& (255 : Int32)).toUInt32.toUInt16.toUInt32.toInt32 (x3 &&& (255 : Int32)).toUInt32.toUInt16.toUInt32.toInt32 h0 n0 O hks hfm CS FS (own_nc x1) (own_fc x1) (own_mc x1) (own_nc x2) (own_fc x2) (own_mc x2) (own_nc x3) (own_fc x3) (own_mc x3)) e0 (by rw [hml]; rfl) pd_17 rfl (by decide) (W := 0) (Nat.le_refl _) (by decide) (by decide) (by decide) at_37 rfl rfl (fun v620 T620 L620 X620 hQ620 => ?_)
    obtain ⟨a620, b620, k620, rfl, N620q, K620, A620, B620, D620, V620⟩ := hQ620
    show Ends p.tables e below _ (T620.setTop (mkF m 40 #[.val (.int x0), .val (.int x1), .val (.int x2), .val (.int x3), .val (.int (2 : Int32)), .val (.int (x1 &&& (255 : Int32)).toUInt32.toUInt16.toUInt32.toInt32), .val (.int (x2 &&& (255 : Int32)).toUInt32.toUInt16.toUInt32.toInt32), .val (.int (x3 &&& (255 : Int32)).toUInt32.toUInt16.toUInt32.toInt32), .unset, .unset, .unset] [(.ref a620)]))
    refine own_astore X620 hx hby at_40 rfl #[.val (.int x0), .val (.int x1), .val (.int x2), .val (.int x3), .val (.int (2 : Int32)), .val (.int (x1 &&& (255 : Int32)).toUInt32.toUInt16.toUInt32.toInt32), .val (.int (x2 &&& (255 : Int32)).toUInt32.toUInt16.toUInt32.toInt32), .val (.int (x3 &&& (255 : Int32)).toUInt32.toUInt16.toUInt32.toInt32), .val (.ref a620), .unset, .unset] rfl rfl ?_
    refine own_iload X620 hx hby at_42 rfl rfl ?_
    refine own_iload X620 hx hby at_44 rfl rfl ?_
    refine own_iload X620 hx hby at_46 rfl rfl ?_
    refine own_iload X620 hx hby at_48 rfl rfl ?_
    have f622 := (O.keep K620 all0)
    refine own_static X620 hx hby hZ (argsL := [(.int (2 : Int32)), (.int (x1 &&& (255 : Int32)).toUInt32.toUInt16.toUInt32.toInt32), (.int (x2 &&& (255 : Int32)).toUInt32.toUInt16.toUInt32.toInt32), (.int (x3 &&& (255 : Int32)).toUInt32.toUInt16.toUInt32.toInt32)]) (rest := []) hown (hw _ tw_26) (hw _ tw_27) (hw _ tw_2) (hw _ tw_28) (by decide) (rmws_2 l Z a0 hw (x1 &&& (255 : Int32)).toUInt32.toUInt16.toUInt32.toInt32 (x2 &&& (255 : Int32)).toUInt32.toUInt16.toUInt32.toInt32 (x3 &&& (255 : Int32)).toUInt32.toUInt16.toUInt32.toInt32 T620.heap n0 f622 hks hfm CS FS (own_nc x1) (own_fc x1) (own_mc x1) (own_nc x2) (own_fc x2) (own_mc x2) (own_nc x3) (own_fc x3) (own_mc x3)) rfl (by rw [hml]; rfl) pd_17 rfl (by decide) (W := 0) (Nat.le_refl _) (by decide) (by decide) (by decide) at_50 rfl rfl (fun v621 T621 L621 X621 hQ621 => ?_)
    obtain ⟨a621, b621, k621, rfl, N621q, K621, A621, B621, D621, V621⟩ := hQ621
    show Ends p.tables e below _ (T621.setTop (mkF m 53 #[.val (.int x0), .val (.int x1), .val (.int x2), .val (.int x3), .val (.int (2 : Int32)), .val (.int (x1 &&& (255 : Int32)).toUInt32.toUInt16.toUInt32.toInt32), .val (.int (x2 &&& (255 : Int32)).toUInt32.toUInt16.toUInt32.toInt32), .val (.int (x3 &&& (255 : Int32)).toUInt32.toUInt16.toUInt32.toInt32), .val (.ref a620), .unset, .unset] [(.ref a621)]))
    refine own_astore X621 hx hby at_53 rfl #[.val (.int x0), .val (.int x1), .val (.int x2), .val (.int x3), .val (.int (2 : Int32)), .val (.int (x1 &&& (255 : Int32)).toUInt32.toUInt16.toUInt32.toInt32), .val (.int (x2 &&& (255 : Int32)).toUInt32.toUInt16.toUInt32.toInt32), .val (.int (x3 &&& (255 : Int32)).toUInt32.toUInt16.toUInt32.toInt32), .val (.ref a620), .val (.ref a621), .unset] rfl rfl ?_
    refine own_aload X621 hx hby at_55 rfl rfl rfl ?_
    have f624 := (f622.keep K621 all0)
    have f625 := (own_Rk (own_Rk (CHr.refl hH) K620 all0) K621 all0)
    have f626 := (Nat.le_trans (Nat.le_trans (Nat.le_refl _) K620.1) K621.1)
    refine own_staticH X621 hx hby hZ (argsL := [(.ref a621)]) (rest := []) hown (hw _ tw_40) (hw _ tw_41) (hw _ tw_42) (hw _ tw_43) (by decide) (rmdi_2 l Z a0 hw a621 T621.heap n0 hEL hks hfm CS FS f624 A621 B621 D621 V621) rfl hS f626 hEL f625.1 (fun _ q => nomatch q) (by rw [hml]; rfl) pd_18 rfl (by decide) (W := 0) (Nat.le_refl _) (by decide) (by decide) (by decide) at_57 rfl rfl (fun v623 T623 L623 X623 hS hZ hown hR623 hQ623 => ?_)
    obtain ⟨a623, b623, k623, rfl, N623q, K623, A623, B623, D623, V623⟩ := hQ623
    show Ends p.tables e below _ (T623.setTop (mkF m 60 #[.val (.int x0), .val (.int x1), .val (.int x2), .val (.int x3), .val (.int (2 : Int32)), .val (.int (x1 &&& (255 : Int32)).toUInt32.toUInt16.toUInt32.toInt32), .val (.int (x2 &&& (255 : Int32)).toUInt32.toUInt16.toUInt32.toInt32), .val (.int (x3 &&& (255 : Int32)).toUInt32.toUInt16.toUInt32.toInt32), .val (.ref a620), .val (.ref a621), .unset] [(.ref a623)]))
    refine own_astore X623 hx hby at_60 rfl #[.val (.int x0), .val (.int x1), .val (.int x2), .val (.int x3), .val (.int (2 : Int32)), .val (.int (x1 &&& (255 : Int32)).toUInt32.toUInt16.toUInt32.toInt32), .val (.int (x2 &&& (255 : Int32)).toUInt32.toUInt16.toUInt32.toInt32), .val (.int (x3 &&& (255 : Int32)).toUInt32.toUInt16.toUInt32.toInt32), .val (.ref a620), .val (.ref a621), .val (.ref a623)] rfl rfl ?_
    refine own_aload X623 hx hby at_62 rfl rfl rfl ?_
    refine own_aload X623 hx hby at_64 rfl rfl rfl ?_
    have f628 := (f624.keep K623 all0)
    have f629 := ((A620.keep K621).keep K623)
    have f630 := ((B620.keep K621 nin0).keep K623 nin0)
    have f631 := ((D620.keep K621 nin0).keep K623 nin0)
    have f632 := ((V620.keep K621 nin0).keep K623 nin0)
    refine own_virtual X623 hx hby hZ (Cn := "java/lang/String") (a := a623) (argsL := [(.ref a620)]) (rest := []) hown (hw _ tw_79) (hw _ tw_80) (hw _ tw_82) (hw _ tw_81) (hw _ tw_6) (hw _ tw_83) (by decide) (rmeq_2 l Z a0 hw a623 a620 T623.heap hks hfm CS FS (f628).2 A623 B623 D623 V623 f629 f630 f631 f632) A623 rfl (by rw [hml]; rfl) pd_19 rfl (by decide) (W := 0) (Nat.le_refl _) (by decide) (by decide) (by decide) at_66 rfl rfl (fun v627 T627 L627 X627 hQ627 => ?_)
    obtain ⟨rfl, rfl, e627⟩ := hQ627
    show Ends p.tables e below _ (T627.setTop (mkF m 69 #[.val (.int x0), .val (.int x1), .val (.int x2), .val (.int x3), .val (.int (2 : Int32)), .val (.int (x1 &&& (255 : Int32)).toUInt32.toUInt16.toUInt32.toInt32), .val (.int (x2 &&& (255 : Int32)).toUInt32.toUInt16.toUInt32.toInt32), .val (.int (x3 &&& (255 : Int32)).toUInt32.toUInt16.toUInt32.toInt32), .val (.ref a620), .val (.ref a621), .val (.ref a623)] [(.int (1 : Int32))]))
    have f633 := (f625.trans hR623)
    refine own_retH X627 hx hby hret hlk at_69 (.int (1 : Int32)) rfl (Or.inl ⟨rfl, by simp, _, rfl⟩) hZ hEL (by rw [show T627.heap = _ from e627, show s.heap = _ from eh]; exact f633) hS (by rw [show T627.heap = _ from e627]; exact (Nat.le_refl _)) (by decide) (by decide) ?_
    exact ⟨rfl, (Fr.app (Fr.app (Fr.app (Fr.app N0 N620q) N621q) N623q) (Fr.nil _))⟩
  · -- 3
    rw [hz]
    show Ends p.tables e below _ (s₁.setTop (mkF m 5 #[.val (.int x0), .val (.int x1), .val (.int x2), .val (.int x3), .val (.int (3 : Int32)), .unset, .unset, .unset, .unset, .unset, .unset] []))
    refine own_iloadN X0 hx hby at_5 rfl rfl ?_
    refine own_sipush X0 hx hby at_6 rfl (255 : Int32) rfl ?_
    refine own_iand X0 hx hby at_9 rfl ?_
    refine own_i2c X0 hx hby at_10 rfl ?_
    refine own_istore X0 hx hby at_11 rfl #[.val (.int x0), .val (.int x1), .val (.int x2), .val (.int x3), .val (.int (3 : Int32)), .val (.int (x1 &&& (255 : Int32)).toUInt32.toUInt16.toUInt32.toInt32), .unset, .unset, .unset, .unset, .unset] rfl ?_
    refine own_iloadN X0 hx hby at_13 rfl rfl ?_
    refine own_sipush X0 hx hby at_14 rfl (255 : Int32) rfl ?_
    refine own_iand X0 hx hby at_17 rfl ?_
    refine own_i2c X0 hx hby at_18 rfl ?_
    refine own_istore X0 hx hby at_19 rfl #[.val (.int x0), .val (.int x1), .val (.int x2), .val (.int x3), .val (.int (3 : Int32)), .val (.int (x1 &&& (255 : Int32)).toUInt32.toUInt16.toUInt32.toInt32), .val (.int (x2 &&& (255 : Int32)).toUInt32.toUInt16.toUInt32.toInt32), .unset, .unset, .unset, .unset] rfl ?_
    refine own_iloadN X0 hx hby at_21 rfl rfl ?_
    refine own_sipush X0 hx hby at_22 rfl (255 : Int32) rfl ?_
    refine own_iand X0 hx hby at_25 rfl ?_
    refine own_i2c X0 hx hby at_26 rfl ?_
    refine own_istore X0 hx hby at_27 rfl #[.val (.int x0), .val (.int x1), .val (.int x2), .val (.int x3), .val (.int (3 : Int32)), .val (.int (x1 &&& (255 : Int32)).toUInt32.toUInt16.toUInt32.toInt32), .val (.int (x2 &&& (255 : Int32)).toUInt32.toUInt16.toUInt32.toInt32), .val (.int (x3 &&& (255 : Int32)).toUInt32.toUInt16.toUInt32.toInt32), .unset, .unset, .unset] rfl ?_
    refine own_iload X0 hx hby at_29 rfl rfl ?_
    refine own_iload X0 hx hby at_31 rfl rfl ?_
    refine own_iload X0 hx hby at_33 rfl rfl ?_
    refine own_iload X0 hx hby at_35 rfl rfl ?_
    refine own_static X0 hx hby hZ (argsL := [(.int (3 : Int32)), (.int (x1 &&& (255 : Int32)).toUInt32.toUInt16.toUInt32.toInt32), (.int (x2 &&& (255 : Int32)).toUInt32.toUInt16.toUInt32.toInt32), (.int (x3 &&& (255 : Int32)).toUInt32.toUInt16.toUInt32.toInt32)]) (rest := []) hown (hw _ tw_0) (hw _ tw_1) (hw _ tw_2) (hw _ tw_3) (by decide) (rmpl_3 l Z a0 hw (x1 &&& (255 : Int32)).toUInt32.toUInt16.toUInt32.toInt32 (x2 &&& (255 : Int32)).toUInt32.toUInt16.toUInt32.toInt32 (x3 &&& (255 : Int32)).toUInt32.toUInt16.toUInt32.toInt32 h0 n0 O hks hfm CS FS (own_nc x1) (own_fc x1) (own_mc x1) (own_nc x2) (own_fc x2) (own_mc x2) (own_nc x3) (own_fc x3) (own_mc x3)) e0 (by rw [hml]; rfl) pd_17 rfl (by decide) (W := 0) (Nat.le_refl _) (by decide) (by decide) (by decide) at_37 rfl rfl (fun v634 T634 L634 X634 hQ634 => ?_)
    obtain ⟨a634, b634, k634, rfl, N634q, K634, A634, B634, D634, V634⟩ := hQ634
    show Ends p.tables e below _ (T634.setTop (mkF m 40 #[.val (.int x0), .val (.int x1), .val (.int x2), .val (.int x3), .val (.int (3 : Int32)), .val (.int (x1 &&& (255 : Int32)).toUInt32.toUInt16.toUInt32.toInt32), .val (.int (x2 &&& (255 : Int32)).toUInt32.toUInt16.toUInt32.toInt32), .val (.int (x3 &&& (255 : Int32)).toUInt32.toUInt16.toUInt32.toInt32), .unset, .unset, .unset] [(.ref a634)]))
    refine own_astore X634 hx hby at_40 rfl #[.val (.int x0), .val (.int x1), .val (.int x2), .val (.int x3), .val (.int (3 : Int32)), .val (.int (x1 &&& (255 : Int32)).toUInt32.toUInt16.toUInt32.toInt32), .val (.int (x2 &&& (255 : Int32)).toUInt32.toUInt16.toUInt32.toInt32), .val (.int (x3 &&& (255 : Int32)).toUInt32.toUInt16.toUInt32.toInt32), .val (.ref a634), .unset, .unset] rfl rfl ?_
    refine own_iload X634 hx hby at_42 rfl rfl ?_
    refine own_iload X634 hx hby at_44 rfl rfl ?_
    refine own_iload X634 hx hby at_46 rfl rfl ?_
    refine own_iload X634 hx hby at_48 rfl rfl ?_
    have f636 := (O.keep K634 all0)
    refine own_static X634 hx hby hZ (argsL := [(.int (3 : Int32)), (.int (x1 &&& (255 : Int32)).toUInt32.toUInt16.toUInt32.toInt32), (.int (x2 &&& (255 : Int32)).toUInt32.toUInt16.toUInt32.toInt32), (.int (x3 &&& (255 : Int32)).toUInt32.toUInt16.toUInt32.toInt32)]) (rest := []) hown (hw _ tw_26) (hw _ tw_27) (hw _ tw_2) (hw _ tw_28) (by decide) (rmws_3 l Z a0 hw (x1 &&& (255 : Int32)).toUInt32.toUInt16.toUInt32.toInt32 (x2 &&& (255 : Int32)).toUInt32.toUInt16.toUInt32.toInt32 (x3 &&& (255 : Int32)).toUInt32.toUInt16.toUInt32.toInt32 T634.heap n0 f636 hks hfm CS FS (own_nc x1) (own_fc x1) (own_mc x1) (own_nc x2) (own_fc x2) (own_mc x2) (own_nc x3) (own_fc x3) (own_mc x3)) rfl (by rw [hml]; rfl) pd_17 rfl (by decide) (W := 0) (Nat.le_refl _) (by decide) (by decide) (by decide) at_50 rfl rfl (fun v635 T635 L635 X635 hQ635 => ?_)
    obtain ⟨a635, b635, k635, rfl, N635q, K635, A635, B635, D635, V635⟩ := hQ635
    show Ends p.tables e below _ (T635.setTop (mkF m 53 #[.val (.int x0), .val (.int x1), .val (.int x2), .val (.int x3), .val (.int (3 : Int32)), .val (.int (x1 &&& (255 : Int32)).toUInt32.toUInt16.toUInt32.toInt32), .val (.int (x2 &&& (255 : Int32)).toUInt32.toUInt16.toUInt32.toInt32), .val (.int (x3 &&& (255 : Int32)).toUInt32.toUInt16.toUInt32.toInt32), .val (.ref a634), .unset, .unset] [(.ref a635)]))
    refine own_astore X635 hx hby at_53 rfl #[.val (.int x0), .val (.int x1), .val (.int x2), .val (.int x3), .val (.int (3 : Int32)), .val (.int (x1 &&& (255 : Int32)).toUInt32.toUInt16.toUInt32.toInt32), .val (.int (x2 &&& (255 : Int32)).toUInt32.toUInt16.toUInt32.toInt32), .val (.int (x3 &&& (255 : Int32)).toUInt32.toUInt16.toUInt32.toInt32), .val (.ref a634), .val (.ref a635), .unset] rfl rfl ?_
    refine own_aload X635 hx hby at_55 rfl rfl rfl ?_
    have f638 := (f636.keep K635 all0)
    have f639 := (own_Rk (own_Rk (CHr.refl hH) K634 all0) K635 all0)
    have f640 := (Nat.le_trans (Nat.le_trans (Nat.le_refl _) K634.1) K635.1)
    refine own_staticH X635 hx hby hZ (argsL := [(.ref a635)]) (rest := []) hown (hw _ tw_40) (hw _ tw_41) (hw _ tw_42) (hw _ tw_43) (by decide) (rmdi_3 l Z a0 hw a635 T635.heap n0 hEL hks hfm CS FS f638 A635 B635 D635 V635) rfl hS f640 hEL f639.1 (fun _ q => nomatch q) (by rw [hml]; rfl) pd_18 rfl (by decide) (W := 0) (Nat.le_refl _) (by decide) (by decide) (by decide) at_57 rfl rfl (fun v637 T637 L637 X637 hS hZ hown hR637 hQ637 => ?_)
    obtain ⟨a637, b637, k637, rfl, N637q, K637, A637, B637, D637, V637⟩ := hQ637
    show Ends p.tables e below _ (T637.setTop (mkF m 60 #[.val (.int x0), .val (.int x1), .val (.int x2), .val (.int x3), .val (.int (3 : Int32)), .val (.int (x1 &&& (255 : Int32)).toUInt32.toUInt16.toUInt32.toInt32), .val (.int (x2 &&& (255 : Int32)).toUInt32.toUInt16.toUInt32.toInt32), .val (.int (x3 &&& (255 : Int32)).toUInt32.toUInt16.toUInt32.toInt32), .val (.ref a634), .val (.ref a635), .unset] [(.ref a637)]))
    refine own_astore X637 hx hby at_60 rfl #[.val (.int x0), .val (.int x1), .val (.int x2), .val (.int x3), .val (.int (3 : Int32)), .val (.int (x1 &&& (255 : Int32)).toUInt32.toUInt16.toUInt32.toInt32), .val (.int (x2 &&& (255 : Int32)).toUInt32.toUInt16.toUInt32.toInt32), .val (.int (x3 &&& (255 : Int32)).toUInt32.toUInt16.toUInt32.toInt32), .val (.ref a634), .val (.ref a635), .val (.ref a637)] rfl rfl ?_
    refine own_aload X637 hx hby at_62 rfl rfl rfl ?_
    refine own_aload X637 hx hby at_64 rfl rfl rfl ?_
    have f642 := (f638.keep K637 all0)
    have f643 := ((A634.keep K635).keep K637)
    have f644 := ((B634.keep K635 nin0).keep K637 nin0)
    have f645 := ((D634.keep K635 nin0).keep K637 nin0)
    have f646 := ((V634.keep K635 nin0).keep K637 nin0)
    refine own_virtual X637 hx hby hZ (Cn := "java/lang/String") (a := a637) (argsL := [(.ref a634)]) (rest := []) hown (hw _ tw_79) (hw _ tw_80) (hw _ tw_82) (hw _ tw_81) (hw _ tw_6) (hw _ tw_83) (by decide) (rmeq_3 l Z a0 hw a637 a634 T637.heap hks hfm CS FS (f642).2 A637 B637 D637 V637 f643 f644 f645 f646) A637 rfl (by rw [hml]; rfl) pd_19 rfl (by decide) (W := 0) (Nat.le_refl _) (by decide) (by decide) (by decide) at_66 rfl rfl (fun v641 T641 L641 X641 hQ641 => ?_)
    obtain ⟨rfl, rfl, e641⟩ := hQ641
    show Ends p.tables e below _ (T641.setTop (mkF m 69 #[.val (.int x0), .val (.int x1), .val (.int x2), .val (.int x3), .val (.int (3 : Int32)), .val (.int (x1 &&& (255 : Int32)).toUInt32.toUInt16.toUInt32.toInt32), .val (.int (x2 &&& (255 : Int32)).toUInt32.toUInt16.toUInt32.toInt32), .val (.int (x3 &&& (255 : Int32)).toUInt32.toUInt16.toUInt32.toInt32), .val (.ref a634), .val (.ref a635), .val (.ref a637)] [(.int (1 : Int32))]))
    have f647 := (f639.trans hR637)
    refine own_retH X641 hx hby hret hlk at_69 (.int (1 : Int32)) rfl (Or.inl ⟨rfl, by simp, _, rfl⟩) hZ hEL (by rw [show T641.heap = _ from e641, show s.heap = _ from eh]; exact f647) hS (by rw [show T641.heap = _ from e641]; exact (Nat.le_refl _)) (by decide) (by decide) ?_
    exact ⟨rfl, (Fr.app (Fr.app (Fr.app (Fr.app N0 N634q) N635q) N637q) (Fr.nil _))⟩
set_option maxRecDepth 65536 in
set_option maxHeartbeats 40000000 in
theorem comes_1 {Post : Tables → Env → Array Value → State → Outcome → State → Prop} (hpost : ∀ tb e args s v u, (limb_1_1.after args s (.returned v) u = true ∧ limb_1_2.after args s (.returned v) u = true ∧ True) → ReturnedEndW s (.returned v) u (Jvm.fieldLocs frame_1_writes args s ++ Jvm.arrayLocs frame_1_arrays args s ++ Jvm.staticLocs frame_1_statics s) 32 3264 → Post tb e args s (.returned v) u) :
    ArmFor flags0 classFile x code maxLocals ret World_1 tables_1 room_1 Calls_1 rest_1 Pre_1 Post := by
  intro l hfl _ _ p e ha hc hk s m args below hf hA hF happ hP
  obtain ⟨hcalls, hrest, hpre⟩ := hP
  obtain ⟨-, -, -, hnamed, -, -, -, hat⟩ := (Spec.applies_iff hf).mp happ
  obtain ⟨hg, hn⟩ := and_e (Cond.before_iff.mp (show (Jvm.Cond.and given_1 narrow_1).before args s = true from hpre))
  obtain ⟨hcount, hg0⟩ := and_e hg
  obtain ⟨hv0, hg1⟩ := and_e hg0
  obtain ⟨hv1, hg2⟩ := and_e hg1
  obtain ⟨hv2, hg3⟩ := and_e hg2
  have hv3 := hg3
  obtain ⟨w0, w1, w2, w3, rfl⟩ : ∃ w0 w1 w2 w3 : Value, args = #[w0, w1, w2, w3] := by
    have hs : args.size = 4 := by simpa [Cond.value, given_1] using hcount
    obtain ⟨L⟩ := args
    match L, hs with
    | [w0, w1, w2, w3], _ => exact ⟨w0, w1, w2, w3, rfl⟩
  have hw := fun d (hd : d ∈ tables_1) => atoms_spec (ws := Jvm.Cond.code x code maxLocals ret :: tables_1) hat d (List.mem_cons_of_mem _ hd)
  have hfit : Fit s := fun {y c} hc i hi => by
    obtain ⟨ha, rfl⟩ := Array.getElem?_eq_some_iff.mp hc
    have q := List.all_eq_true.mp ((Array.all_eq_true_iff_forall_mem.mp hF) _ (Array.getElem_mem ha)) i (List.mem_range.mpr hi)
    simpa [Array.getElem?_eq_getElem hi] using q
  obtain ⟨hsets, hown0⟩ := atoms_of _ (rest_1_c_eq ▸ (show rest_1_c.before _ s = true from hrest))
  have hr0 := Cond.before_iff.mp hown0
  obtain ⟨i0, ei0⟩ := is_v hv0
  obtain rfl : w0 = (.int i0) := Option.some.inj ei0
  obtain ⟨i1, ei1⟩ := is_v hv1
  obtain rfl : w1 = (.int i1) := Option.some.inj ei1
  obtain ⟨i2, ei2⟩ := is_v hv2
  obtain rfl : w2 = (.int i2) := Option.some.inj ei2
  obtain ⟨i3, ei3⟩ := is_v hv3
  obtain rfl : w3 = (.int i3) := Option.some.inj ei3
  have hcs1 := Cond.before_iff.mp (hsets _ (List.mem_of_getElem? (i := 1) rfl))
  obtain ⟨ks, eks⟩ := is_v hcs1
  have hnz := hsets _ (List.mem_of_getElem? (i := 2) rfl)
  have hks : ¬ (ks = (0 : Int32)) := gotF (Cond.eq_ints eks (Term.int_eval (0))) (not_v (Cond.before_iff.mp hnz))
  have CS : Sta s s.heap "java/lang/String" "COMPACT_STRINGS" "Z" (.int ks) := Sta.start eks (Or.inl (hsets _ (List.mem_of_getElem? (i := 0) rfl)))
  obtain ⟨fm, efm, hfm⟩ := isR_v (Cond.before_iff.mp (hsets _ (List.mem_of_getElem? (i := 8) rfl)))
  have FS : Sta s s.heap "jdk/internal/util/Preconditions" "SIOOBE_FORMATTER" "Ljava/util/function/BiFunction;" fm := Sta.start efm (Or.inl (hsets _ (List.mem_of_getElem? (i := 7) rfl)))
  have hEL : EW s #[(.int i0), (.int i1), (.int i2), (.int i3)] consts_1 := EW.cons (hw _ tw_54) (by decide +kernel) (EW.cons (hw _ tw_18) (by decide +kernel) (EW.cons (hw _ tw_78) (by decide +kernel) EW.nil))
  have hH0 : CHv s consts_1 s.vm s.heap := CHv.start hEL hcalls.1 hnz (hw _ tw_19) (hw _ tw_5)
  obtain ⟨n, o, h1, h2, h3, _, L, rfl, ⟨rfl, N⟩, -, hq⟩ := rm0 l s _ hw i0 i1 i2 i3 s.heap s.heap.size hEL hks hfm CS FS (Old.start s) p e ha hc hk s m _ below hf ((Spec.applies_iff_loose hf).mp happ).1 ⟨rfl, State.Warmed39.refl s, rfl, hH0, fun _ q => nomatch q⟩ trivial
  refine ⟨n, _, h1, h2, h3, hpost _ _ _ _ _ _ ⟨Cond.after_iff.mpr rfl, Cond.after_iff.mpr (eq_i res_at (Term.int_eval (1)) rfl), trivial⟩ ⟨hq.1, hq.2.1, hq.2.2.1, (hq.2.2.2.sift fun y hy => Or.inr (N y hy)).mono (by decide) (by decide)⟩⟩
theorem main_1_1 : Claimed_1_1 := comes_1 fun _ _ _ _ _ _ h hF => ⟨h.1, hF⟩
theorem main_1_2 : Claimed_1_2 := comes_1 fun _ _ _ _ _ _ h hF => ⟨h.2.1, hF⟩
end Jvm.Pilot.@@N@@
namespace Jvm.Pilot.@@N@@
open Jvm Jvm.ClassFile Sem Op Lib Jvm.Free Jvm.Stand Jvm.Pilot.@@N@@.Jvm.D
/-! MADE BY PROGRAM (witnessworld.py) out of the Statement's table words and the real class files: 24 classes; the members and pool entries that the words name. The judged class is class 1, her method 1. -/
namespace start1
open Jvm.ClassFile
def u (s : String) : CpInfo := .utf8 (stringToUtf16 s)
/-- a pool by its gaps: so many unusable entries, then the entry; so many at the end -/
def gap : Nat → List CpInfo → List CpInfo
  | 0, r => r
  | n + 1, r => .unusable :: gap n r
def poolList (es : List (Nat × CpInfo)) (last : Nat) : List CpInfo := es.foldr (fun e r => gap e.1 (e.2 :: r)) (gap last [])
def pool (es : List (Nat × CpInfo)) (last : Nat) : Array CpInfo := ⟨poolList es last⟩
def fileOf (pool : Array CpInfo) (this : Nat) (attrs : Array Attribute := #[]) (ms : Array MethodInfo := #[]) (fl : Nat := 33) (sup : Nat := 0) (ifs : Array Nat := #[]) (fds : Array FieldInfo := #[]) : ClassFile where
  minorVersion := 0
  majorVersion := 65
  constantPool := pool
  accessFlags := fl
  thisClass := this
  superClass := sup
  interfaces := ifs
  fields := fds
  methods := ms
  attributes := attrs
def plain (name : String) (sup : Option ClassId) : Class where
  name := name
  kind := .ordinary
  loader := none
  accessFlags := 33
  super := sup
  interfaces := #[]
  cf := none
  fields := #[]
  methods := #[]
  instanceTypes := #[]
  staticTypes := #[]
  resolved := #[]
  callSites := []
  init := .initialized
  statics := none
  mirror := none

def pool0 : Array CpInfo := pool [(5, u "<init>"), (0, u "()V"), (1, .class_ 10), (1, u "java/lang/Object")] 113

def k0c0 : Code := { maxStack := 0, maxLocals := 1, code := object_method_1_code, exceptionTable := #[], attributes := #[] }
def k0m0 : Method := { name := "<init>", desc := "()V", sig := { parameters := [], returnType := none }, accessFlags := 1, code := some k0c0 }
/-- java/lang/Object -/
def k0 : Class := { plain "java/lang/Object" none with
  accessFlags := 33
  interfaces := #[]
  cf := some (fileOf pool0 8 #[] #[{ accessFlags := 1, nameIndex := 5, descriptorIndex := 6, attributes := #[] }] 33 0 #[] #[])
  fields := #[]
  methods := #[k0m0]
  instanceTypes := #[]
  staticTypes := #[]
  resolved := Array.replicate 124 none
  statics := none }

def pool1 : Array CpInfo := pool [(2, .class_ 4), (1, u "java/lang/Object"), (0, u "<init>"), (0, u "()V"), (0, .methodref 8 9), (0, .class_ 10), (0, .nameAndType 11 12), (0, u "com/example/portunus/portunus/io/InvalidationDirectoryOfPinLaw"), (0, u "plain"), (0, u "(ICCC)Ljava/lang/String;"), (0, .methodref 8 14), (0, .nameAndType 15 12), (0, u "withSlash"), (0, .methodref 17 18), (0, .class_ 19), (0, .nameAndType 20 21), (0, u "com/example/portunus/portunus/io/Invalidation"), (0, u "directoryOf"), (0, u "(Ljava/lang/String;)Ljava/lang/String;"), (0, .methodref 23 24), (0, .class_ 25), (0, .nameAndType 26 27), (0, u "java/lang/String"), (0, u "equals"), (0, u "(Ljava/lang/Object;)Z"), (0, .methodref 23 29), (0, .nameAndType 5 30), (0, u "([C)V"), (2, u "law"), (0, u "(IIII)Z")] 3

def k1m0 : Method := { name := "<init>", desc := "()V", sig := { parameters := [], returnType := none }, accessFlags := 1, code := none }
def k1c1 : Code := { maxStack := 4, maxLocals := 11, code := code, exceptionTable := #[], attributes := #[] }
def k1m1 : Method := { name := "law", desc := "(IIII)Z", sig := { parameters := [.int, .int, .int, .int], returnType := some .boolean }, accessFlags := 9, code := some k1c1 }
def k1c2 : Code := { maxStack := 6, maxLocals := 4, code := method_3_code, exceptionTable := #[], attributes := #[] }
def k1m2 : Method := { name := "plain", desc := "(ICCC)Ljava/lang/String;", sig := { parameters := [.int, .char, .char, .char], returnType := some (.object "java/lang/String") }, accessFlags := 10, code := some k1c2 }
def k1c3 : Code := { maxStack := 6, maxLocals := 4, code := method_4_code, exceptionTable := #[], attributes := #[] }
def k1m3 : Method := { name := "withSlash", desc := "(ICCC)Ljava/lang/String;", sig := { parameters := [.int, .char, .char, .char], returnType := some (.object "java/lang/String") }, accessFlags := 10, code := some k1c3 }
/-- com/example/portunus/portunus/io/InvalidationDirectoryOfPinLaw -/
def k1 : Class := { plain "com/example/portunus/portunus/io/InvalidationDirectoryOfPinLaw" (some 0) with
  accessFlags := 49
  interfaces := #[]
  cf := some (fileOf pool1 8 #[] #[{ accessFlags := 1, nameIndex := 5, descriptorIndex := 6, attributes := #[] }, { accessFlags := 9, nameIndex := 33, descriptorIndex := 34, attributes := #[] }, { accessFlags := 10, nameIndex := 11, descriptorIndex := 12, attributes := #[] }, { accessFlags := 10, nameIndex := 15, descriptorIndex := 12, attributes := #[] }] 49 2 #[] #[])
  fields := #[]
  methods := #[k1m0, k1m1, k1m2, k1m3]
  instanceTypes := #[]
  staticTypes := #[]
  resolved := Array.replicate 38 none
  statics := none }

def pool2 : Array CpInfo := pool [(1, .class_ 2), (0, u "java/io/Serializable"), (0, .class_ 4), (0, u "java/lang/Object")] 2

/-- java/io/Serializable -/
def k2 : Class := { plain "java/io/Serializable" (some 0) with
  accessFlags := 1537
  interfaces := #[]
  cf := some (fileOf pool2 1 #[] #[] 1537 3 #[] #[])
  fields := #[]
  methods := #[]
  instanceTypes := #[]
  staticTypes := #[]
  resolved := Array.replicate 7 none
  statics := none }

def pool3 : Array CpInfo := pool [(1, .class_ 2), (0, u "java/lang/Comparable"), (0, .class_ 4), (0, u "java/lang/Object")] 7

/-- java/lang/Comparable -/
def k3 : Class := { plain "java/lang/Comparable" (some 0) with
  accessFlags := 1537
  interfaces := #[]
  cf := some (fileOf pool3 1 #[] #[] 1537 3 #[] #[])
  fields := #[]
  methods := #[]
  instanceTypes := #[]
  staticTypes := #[]
  resolved := Array.replicate 12 none
  statics := none }

def pool4 : Array CpInfo := pool [(2, .class_ 4), (1, u "java/lang/CharSequence"), (42, .class_ 48), (0, u "java/lang/CharSequence$1CodePointIterator"), (10, .class_ 60), (0, u "java/lang/CharSequence$1CharIterator"), (5, .class_ 67), (0, u "java/lang/Object")] 63

/-- java/lang/CharSequence -/
def k4 : Class := { plain "java/lang/CharSequence" (some 0) with
  accessFlags := 1537
  interfaces := #[]
  cf := some (fileOf pool4 2 #[.nestMembers #[47, 59]] #[] 1537 66 #[] #[])
  fields := #[]
  methods := #[]
  instanceTypes := #[]
  staticTypes := #[]
  resolved := Array.replicate 131 none
  statics := none }

def pool5 : Array CpInfo := pool [(1, .class_ 2), (0, u "java/lang/constant/Constable"), (0, .class_ 4), (0, u "java/lang/Object")] 6

/-- java/lang/constant/Constable -/
def k5 : Class := { plain "java/lang/constant/Constable" (some 0) with
  accessFlags := 1537
  interfaces := #[]
  cf := some (fileOf pool5 1 #[] #[] 1537 3 #[] #[])
  fields := #[]
  methods := #[]
  instanceTypes := #[]
  staticTypes := #[]
  resolved := Array.replicate 11 none
  statics := none }

def pool6 : Array CpInfo := pool [(1, .class_ 2), (0, u "java/lang/constant/ConstantDesc"), (0, .class_ 4), (0, u "java/lang/Object")] 32

/-- java/lang/constant/ConstantDesc -/
def k6 : Class := { plain "java/lang/constant/ConstantDesc" (some 0) with
  accessFlags := 1537
  interfaces := #[]
  cf := some (fileOf pool6 1 #[] #[] 1537 3 #[] #[])
  fields := #[]
  methods := #[]
  instanceTypes := #[]
  staticTypes := #[]
  resolved := Array.replicate 37 none
  statics := none }

def pool7 : Array CpInfo := pool [(1, .methodref 2 3), (0, .class_ 4), (0, .nameAndType 5 6), (0, u "java/lang/Object"), (0, u "<init>"), (0, u "()V"), (0, .string 8), (0, u ""), (0, .fieldref 10 11), (0, .class_ 12), (0, .nameAndType 13 14), (0, u "java/lang/String"), (0, u "value"), (0, u "[B"), (0, .fieldref 10 16), (0, .nameAndType 17 18), (0, u "coder"), (0, u "B"), (2, u "hash"), (0, u "I"), (2, u "hashIsZero"), (0, u "Z"), (0, .methodref 10 28), (0, .nameAndType 5 29), (0, u "([CIILjava/lang/Void;)V"), (8, .fieldref 10 39), (0, .nameAndType 40 26), (0, u "COMPACT_STRINGS"), (1, .class_ 44), (1, u "java/lang/StringUTF16"), (0, u "compress"), (1, .methodref 42 48), (0, .nameAndType 49 50), (0, u "coderFromArrayLen"), (0, u "([BI)B"), (56, .class_ 109), (1, u "java/lang/StringLatin1"), (32, u "()Z"), (34, .methodref 42 178), (0, .nameAndType 45 179), (0, u "([CII)[B"), (31, u "([BB)V"), (122, u "()I"), (0, .methodref 10 336), (0, .nameAndType 17 337), (0, u "()B"), (154, .methodref 10 493), (0, .nameAndType 494 142), (0, u "isLatin1"), (10, .methodref 10 506), (0, .nameAndType 507 334), (0, u "length"), (5, u "checkFromToIndex"), (7, .methodref 10 522), (0, .nameAndType 523 524), (0, u "checkBoundsBeginEnd"), (0, u "(III)V"), (16, .methodref 107 542), (0, .nameAndType 543 544), (0, u "equals"), (0, u "([B[B)Z"), (28, u "(Ljava/lang/Object;)Z"), (1, .class_ 576), (0, u "java/lang/CharSequence"), (22, u "CASE_INSENSITIVE_ORDER"), (0, u "Ljava/util/Comparator;"), (82, u "substring"), (0, u "(II)Ljava/lang/String;"), (0, .methodref 107 686), (0, .nameAndType 687 688), (0, u "newString"), (0, u "([BII)Ljava/lang/String;"), (321, u "([C)V"), (42, .fieldref 1054 1055), (0, .class_ 1056), (0, .nameAndType 1057 1058), (0, u "jdk/internal/util/Preconditions"), (0, u "SIOOBE_FORMATTER"), (0, u "Ljava/util/function/BiFunction;"), (3, .methodref 1054 1063), (0, .nameAndType 513 1064), (0, u "(IIILjava/util/function/BiFunction;)I"), (36, u "serialPersistentFields"), (0, u "[Ljava/io/ObjectStreamField;"), (0, .class_ 1104), (0, u "java/lang/String$CaseInsensitiveComparator"), (1, .class_ 1107), (0, u "java/io/Serializable"), (0, .class_ 1109), (0, u "java/lang/Comparable"), (0, .class_ 1111), (0, u "java/lang/constant/Constable"), (0, .class_ 1113), (0, u "java/lang/constant/ConstantDesc"), (2, u "serialVersionUID"), (0, u "J"), (3, u "REPL"), (0, u "C"), (2, u "LATIN1"), (1, u "UTF16")] 323

def k7m0 : Method := { name := "<init>", desc := "()V", sig := { parameters := [], returnType := none }, accessFlags := 1, code := none }
def k7c1 : Code := { maxStack := 5, maxLocals := 2, code := jdk_42_method_3_code, exceptionTable := #[], attributes := #[] }
def k7m1 : Method := { name := "<init>", desc := "([C)V", sig := { parameters := [(.array .char)], returnType := none }, accessFlags := 1, code := some k7c1 }
def k7c2 : Code := { maxStack := 2, maxLocals := 1, code := jdk_42_method_54_code, exceptionTable := #[], attributes := #[] }
def k7m2 : Method := { name := "length", desc := "()I", sig := { parameters := [], returnType := some .int }, accessFlags := 1, code := some k7c2 }
def k7c3 : Code := { maxStack := 2, maxLocals := 3, code := jdk_42_method_66_code, exceptionTable := #[], attributes := #[] }
def k7m3 : Method := { name := "equals", desc := "(Ljava/lang/Object;)Z", sig := { parameters := [(.object "java/lang/Object")], returnType := some .boolean }, accessFlags := 1, code := some k7c3 }
def k7c4 : Code := { maxStack := 3, maxLocals := 5, code := jdk_42_method_92_code, exceptionTable := #[], attributes := #[] }
def k7m4 : Method := { name := "substring", desc := "(II)Ljava/lang/String;", sig := { parameters := [.int, .int], returnType := some (.object "java/lang/String") }, accessFlags := 1, code := some k7c4 }
def k7c5 : Code := { maxStack := 4, maxLocals := 6, code := jdk_42_method_149_code, exceptionTable := #[], attributes := #[] }
def k7m5 : Method := { name := "<init>", desc := "([CIILjava/lang/Void;)V", sig := { parameters := [(.array .char), .int, .int, (.object "java/lang/Void")], returnType := none }, accessFlags := 2, code := some k7c5 }
def k7c6 : Code := { maxStack := 2, maxLocals := 3, code := jdk_42_method_151_code, exceptionTable := #[], attributes := #[] }
def k7m6 : Method := { name := "<init>", desc := "([BB)V", sig := { parameters := [(.array .byte), .byte], returnType := none }, accessFlags := 0, code := some k7c6 }
def k7c7 : Code := { maxStack := 1, maxLocals := 1, code := jdk_42_method_152_code, exceptionTable := #[], attributes := #[] }
def k7m7 : Method := { name := "coder", desc := "()B", sig := { parameters := [], returnType := some .byte }, accessFlags := 0, code := some k7c7 }
def k7c8 : Code := { maxStack := 1, maxLocals := 1, code := jdk_42_method_154_code, exceptionTable := #[], attributes := #[] }
def k7m8 : Method := { name := "isLatin1", desc := "()Z", sig := { parameters := [], returnType := some .boolean }, accessFlags := 0, code := some k7c8 }
def k7c9 : Code := { maxStack := 4, maxLocals := 3, code := jdk_42_method_158_code, exceptionTable := #[], attributes := #[] }
def k7m9 : Method := { name := "checkBoundsBeginEnd", desc := "(III)V", sig := { parameters := [.int, .int, .int], returnType := none }, accessFlags := 8, code := some k7c9 }
/-- java/lang/String -/
def k7 : Class := { plain "java/lang/String" (some 0) with
  accessFlags := 49
  interfaces := #[2, 3, 4, 5, 6]
  cf := some (fileOf pool7 10 #[.nestMembers #[1103]] #[{ accessFlags := 1, nameIndex := 5, descriptorIndex := 6, attributes := #[] }, { accessFlags := 1, nameIndex := 5, descriptorIndex := 1010, attributes := #[] }, { accessFlags := 1, nameIndex := 507, descriptorIndex := 334, attributes := #[] }, { accessFlags := 1, nameIndex := 543, descriptorIndex := 573, attributes := #[] }, { accessFlags := 1, nameIndex := 683, descriptorIndex := 684, attributes := #[] }, { accessFlags := 2, nameIndex := 5, descriptorIndex := 29, attributes := #[] }, { accessFlags := 0, nameIndex := 5, descriptorIndex := 211, attributes := #[] }, { accessFlags := 0, nameIndex := 17, descriptorIndex := 337, attributes := #[] }, { accessFlags := 0, nameIndex := 494, descriptorIndex := 142, attributes := #[] }, { accessFlags := 8, nameIndex := 523, descriptorIndex := 524, attributes := #[] }] 49 2 #[1106, 1108, 575, 1110, 1112] #[{ accessFlags := 18, nameIndex := 13, descriptorIndex := 14, attributes := #[] }, { accessFlags := 18, nameIndex := 17, descriptorIndex := 18, attributes := #[] }, { accessFlags := 2, nameIndex := 21, descriptorIndex := 22, attributes := #[] }, { accessFlags := 2, nameIndex := 25, descriptorIndex := 26, attributes := #[] }, { accessFlags := 26, nameIndex := 1116, descriptorIndex := 1117, attributes := #[] }, { accessFlags := 24, nameIndex := 40, descriptorIndex := 26, attributes := #[] }, { accessFlags := 26, nameIndex := 1101, descriptorIndex := 1102, attributes := #[] }, { accessFlags := 26, nameIndex := 1121, descriptorIndex := 1122, attributes := #[] }, { accessFlags := 25, nameIndex := 599, descriptorIndex := 600, attributes := #[] }, { accessFlags := 24, nameIndex := 1125, descriptorIndex := 18, attributes := #[] }, { accessFlags := 24, nameIndex := 1127, descriptorIndex := 18, attributes := #[] }])
  fields := #[{ name := "value", type := (.array .byte), accessFlags := 18, slot := 0, constantValue := 0 }, { name := "coder", type := .byte, accessFlags := 18, slot := 1, constantValue := 0 }, { name := "hash", type := .int, accessFlags := 2, slot := 2, constantValue := 0 }, { name := "hashIsZero", type := .boolean, accessFlags := 2, slot := 3, constantValue := 0 }, { name := "serialVersionUID", type := .long, accessFlags := 26, slot := 0, constantValue := 0 }, { name := "COMPACT_STRINGS", type := .boolean, accessFlags := 24, slot := 1, constantValue := 0 }, { name := "serialPersistentFields", type := (.array (.object "java/io/ObjectStreamField")), accessFlags := 26, slot := 2, constantValue := 0 }, { name := "REPL", type := .char, accessFlags := 26, slot := 3, constantValue := 0 }, { name := "CASE_INSENSITIVE_ORDER", type := (.object "java/util/Comparator"), accessFlags := 25, slot := 4, constantValue := 0 }, { name := "LATIN1", type := .byte, accessFlags := 24, slot := 5, constantValue := 0 }, { name := "UTF16", type := .byte, accessFlags := 24, slot := 6, constantValue := 0 }]
  methods := #[k7m0, k7m1, k7m2, k7m3, k7m4, k7m5, k7m6, k7m7, k7m8, k7m9]
  instanceTypes := #[(.array .byte), .byte, .int, .boolean]
  staticTypes := #[.long, .boolean, (.array (.object "java/io/ObjectStreamField")), .char, (.object "java/util/Comparator"), .byte, .byte]
  resolved := Array.replicate 1451 none
  statics := some 0 }

def pool8 : Array CpInfo := pool [(6, .class_ 8), (1, u "java/lang/Object"), (0, u "<init>"), (0, u "()V"), (1, .class_ 14), (1, u "java/lang/StringUTF16"), (31, u "$assertionsDisabled"), (0, u "Z"), (13, u "HI_BYTE_SHIFT"), (0, u "I"), (2, u "LO_BYTE_SHIFT"), (49, .methodref 12 116), (0, .nameAndType 117 118), (0, u "compress"), (0, u "([CI[BII)I"), (3, u "([CII)[B"), (138, u "coderFromArrayLen"), (0, u "([BI)B"), (106, .class_ 371), (1, u "java/lang/StringUTF16$LinesSpliterator"), (58, u "MAX_LENGTH"), (196, .class_ 628), (0, u "java/lang/StringUTF16$CodePointsSpliterator"), (0, .class_ 630), (0, u "java/lang/StringUTF16$CharsSpliterator")] 4

def k8m0 : Method := { name := "<init>", desc := "()V", sig := { parameters := [], returnType := none }, accessFlags := 0, code := none }
def k8c1 : Code := { maxStack := 2, maxLocals := 2, code := jdk_52_method_15_code, exceptionTable := #[], attributes := #[] }
def k8m1 : Method := { name := "coderFromArrayLen", desc := "([BI)B", sig := { parameters := [(.array .byte), .int], returnType := some .byte }, accessFlags := 8, code := some k8c1 }
def k8c2 : Code := { maxStack := 5, maxLocals := 6, code := jdk_52_method_16_code, exceptionTable := #[], attributes := #[] }
def k8m2 : Method := { name := "compress", desc := "([CII)[B", sig := { parameters := [(.array .char), .int, .int], returnType := some (.array .byte) }, accessFlags := 9, code := some k8c2 }
def k8c3 : Code := { maxStack := 3, maxLocals := 7, code := jdk_52_method_21_code, exceptionTable := #[], attributes := #[] }
def k8m3 : Method := { name := "compress", desc := "([CI[BII)I", sig := { parameters := [(.array .char), .int, (.array .byte), .int, .int], returnType := some .int }, accessFlags := 9, code := some k8c3 }
/-- java/lang/StringUTF16 -/
def k8 : Class := { plain "java/lang/StringUTF16" (some 0) with
  accessFlags := 48
  interfaces := #[]
  cf := some (fileOf pool8 12 #[.nestMembers #[627, 629, 369]] #[{ accessFlags := 0, nameIndex := 9, descriptorIndex := 10, attributes := #[] }, { accessFlags := 8, nameIndex := 261, descriptorIndex := 262, attributes := #[] }, { accessFlags := 9, nameIndex := 117, descriptorIndex := 122, attributes := #[] }, { accessFlags := 9, nameIndex := 117, descriptorIndex := 118, attributes := #[] }] 48 6 #[] #[{ accessFlags := 26, nameIndex := 61, descriptorIndex := 62, attributes := #[] }, { accessFlags := 26, nameIndex := 65, descriptorIndex := 62, attributes := #[] }, { accessFlags := 24, nameIndex := 430, descriptorIndex := 62, attributes := #[] }, { accessFlags := 4120, nameIndex := 46, descriptorIndex := 47, attributes := #[] }])
  fields := #[{ name := "HI_BYTE_SHIFT", type := .int, accessFlags := 26, slot := 0, constantValue := 0 }, { name := "LO_BYTE_SHIFT", type := .int, accessFlags := 26, slot := 1, constantValue := 0 }, { name := "MAX_LENGTH", type := .int, accessFlags := 24, slot := 2, constantValue := 0 }, { name := "$assertionsDisabled", type := .boolean, accessFlags := 4120, slot := 3, constantValue := 0 }]
  methods := #[k8m0, k8m1, k8m2, k8m3]
  instanceTypes := #[]
  staticTypes := #[.int, .int, .int, .boolean]
  resolved := Array.replicate 635 none
  statics := none }

def pool9 : Array CpInfo := pool [(2, .class_ 4), (1, u "java/lang/Object"), (0, u "<init>"), (0, u "()V"), (0, .class_ 8), (0, u "java/lang/Record")] 13

def k9m0 : Method := { name := "<init>", desc := "()V", sig := { parameters := [], returnType := none }, accessFlags := 4, code := none }
/-- java/lang/Record -/
def k9 : Class := { plain "java/lang/Record" (some 0) with
  accessFlags := 1057
  interfaces := #[]
  cf := some (fileOf pool9 7 #[] #[{ accessFlags := 4, nameIndex := 5, descriptorIndex := 6, attributes := #[] }] 1057 2 #[] #[])
  fields := #[]
  methods := #[k9m0]
  instanceTypes := #[]
  staticTypes := #[]
  resolved := Array.replicate 22 none
  statics := none }

def pool10 : Array CpInfo := pool [(2, .class_ 4), (1, u "java/lang/Record"), (3, .class_ 10), (1, u "com/example/portunus/portunus/io/Invalidation"), (0, u "number"), (0, u "J"), (2, u "name"), (0, u "Ljava/lang/String;"), (3, u "(Ljava/lang/String;)Ljava/lang/String;"), (0, .string 22), (0, u "/"), (1, .class_ 26), (1, u "java/lang/String"), (2, .methodref 24 30), (0, .nameAndType 31 32), (0, u "length"), (0, u "()I"), (0, .methodref 24 34), (0, .nameAndType 35 36), (0, u "substring"), (0, u "(II)Ljava/lang/String;"), (12, u "LISTING_END"), (7, u "directoryOf")] 32

def k10c0 : Code := { maxStack := 4, maxLocals := 1, code := prog_40_method_4_code, exceptionTable := #[], attributes := #[] }
def k10m0 : Method := { name := "directoryOf", desc := "(Ljava/lang/String;)Ljava/lang/String;", sig := { parameters := [(.object "java/lang/String")], returnType := some (.object "java/lang/String") }, accessFlags := 9, code := some k10c0 }
/-- com/example/portunus/portunus/io/Invalidation -/
def k10 : Class := { plain "com/example/portunus/portunus/io/Invalidation" (some 9) with
  accessFlags := 49
  interfaces := #[]
  cf := some (fileOf pool10 8 #[] #[{ accessFlags := 9, nameIndex := 57, descriptorIndex := 20, attributes := #[] }] 49 2 #[] #[{ accessFlags := 18, nameIndex := 11, descriptorIndex := 12, attributes := #[] }, { accessFlags := 18, nameIndex := 15, descriptorIndex := 16, attributes := #[] }, { accessFlags := 26, nameIndex := 49, descriptorIndex := 16, attributes := #[] }])
  fields := #[{ name := "number", type := .long, accessFlags := 18, slot := 0, constantValue := 0 }, { name := "name", type := (.object "java/lang/String"), accessFlags := 18, slot := 1, constantValue := 0 }, { name := "LISTING_END", type := (.object "java/lang/String"), accessFlags := 26, slot := 0, constantValue := 0 }]
  methods := #[k10m0]
  instanceTypes := #[.long, (.object "java/lang/String")]
  staticTypes := #[(.object "java/lang/String")]
  resolved := Array.replicate 90 none
  statics := none }

def pool11 : Array CpInfo := pool [(2, .class_ 4), (1, u "java/lang/Object"), (0, u "<init>"), (0, u "()V"), (17, .class_ 26), (1, u "jdk/internal/util/Preconditions"), (20, u "checkFromToIndex"), (7, .class_ 56), (0, u "jdk/internal/util/Preconditions$4"), (57, .class_ 115), (0, u "jdk/internal/util/Preconditions$1"), (7, u "SIOOBE_FORMATTER"), (0, u "Ljava/util/function/BiFunction;"), (0, .class_ 126), (0, u "jdk/internal/util/Preconditions$2"), (3, u "AIOOBE_FORMATTER"), (0, .class_ 132), (0, u "jdk/internal/util/Preconditions$3"), (3, u "IOOBE_FORMATTER"), (46, u "(IIILjava/util/function/BiFunction;)I")] 10

def k11m0 : Method := { name := "<init>", desc := "()V", sig := { parameters := [], returnType := none }, accessFlags := 1, code := none }
def k11c1 : Code := { maxStack := 4, maxLocals := 4, code := jdk_41_method_12_code, exceptionTable := #[], attributes := #[] }
def k11m1 : Method := { name := "checkFromToIndex", desc := "(IIILjava/util/function/BiFunction;)I", sig := { parameters := [.int, .int, .int, (.object "java/util/function/BiFunction")], returnType := some .int }, accessFlags := 9, code := some k11c1 }
/-- jdk/internal/util/Preconditions -/
def k11 : Class := { plain "jdk/internal/util/Preconditions" (some 0) with
  accessFlags := 33
  interfaces := #[]
  cf := some (fileOf pool11 24 #[.nestMembers #[55, 131, 125, 114]] #[{ accessFlags := 1, nameIndex := 5, descriptorIndex := 6, attributes := #[] }, { accessFlags := 9, nameIndex := 47, descriptorIndex := 183, attributes := #[] }] 33 2 #[] #[{ accessFlags := 25, nameIndex := 123, descriptorIndex := 124, attributes := #[] }, { accessFlags := 25, nameIndex := 130, descriptorIndex := 124, attributes := #[] }, { accessFlags := 25, nameIndex := 136, descriptorIndex := 124, attributes := #[] }])
  fields := #[{ name := "SIOOBE_FORMATTER", type := (.object "java/util/function/BiFunction"), accessFlags := 25, slot := 0, constantValue := 0 }, { name := "AIOOBE_FORMATTER", type := (.object "java/util/function/BiFunction"), accessFlags := 25, slot := 1, constantValue := 0 }, { name := "IOOBE_FORMATTER", type := (.object "java/util/function/BiFunction"), accessFlags := 25, slot := 2, constantValue := 0 }]
  methods := #[k11m0, k11m1]
  instanceTypes := #[]
  staticTypes := #[(.object "java/util/function/BiFunction"), (.object "java/util/function/BiFunction"), (.object "java/util/function/BiFunction")]
  resolved := Array.replicate 194 none
  statics := some 1 }

def pool12 : Array CpInfo := pool [(1, .class_ 2), (0, u "java/lang/String"), (1, .class_ 6), (1, u "java/lang/Object"), (0, u "<init>"), (0, u "()V"), (5, .class_ 16), (1, u "java/lang/StringLatin1"), (95, .methodref 1 113), (0, .nameAndType 7 114), (0, u "([BB)V"), (6, u "$assertionsDisabled"), (0, u "Z"), (8, .class_ 133), (1, u "java/util/Arrays"), (17, .string 152), (0, u ""), (43, u "newString"), (0, u "([BII)Ljava/lang/String;"), (23, .class_ 223), (1, u "java/lang/StringLatin1$LinesSpliterator"), (8, .methodref 131 233), (0, .nameAndType 234 235), (0, u "copyOfRange"), (0, u "([BII)[B"), (45, u "equals"), (0, u "([B[B)Z"), (107, .class_ 391), (0, u "java/lang/StringLatin1$CharsSpliterator")] 3

def k12m0 : Method := { name := "<init>", desc := "()V", sig := { parameters := [], returnType := none }, accessFlags := 0, code := none }
def k12c1 : Code := { maxStack := 3, maxLocals := 3, code := jdk_43_method_13_code, exceptionTable := #[], attributes := #[] }
def k12m1 : Method := { name := "equals", desc := "([B[B)Z", sig := { parameters := [(.array .byte), (.array .byte)], returnType := some .boolean }, accessFlags := 9, code := some k12c1 }
def k12c2 : Code := { maxStack := 6, maxLocals := 3, code := jdk_43_method_47_code, exceptionTable := #[], attributes := #[] }
def k12m2 : Method := { name := "newString", desc := "([BII)Ljava/lang/String;", sig := { parameters := [(.array .byte), .int, .int], returnType := some (.object "java/lang/String") }, accessFlags := 9, code := some k12c2 }
/-- java/lang/StringLatin1 -/
def k12 : Class := { plain "java/lang/StringLatin1" (some 0) with
  accessFlags := 48
  interfaces := #[]
  cf := some (fileOf pool12 14 #[.nestMembers #[390, 221]] #[{ accessFlags := 0, nameIndex := 7, descriptorIndex := 8, attributes := #[] }, { accessFlags := 9, nameIndex := 281, descriptorIndex := 282, attributes := #[] }, { accessFlags := 9, nameIndex := 196, descriptorIndex := 197, attributes := #[] }] 48 4 #[] #[{ accessFlags := 4120, nameIndex := 121, descriptorIndex := 122, attributes := #[] }])
  fields := #[{ name := "$assertionsDisabled", type := .boolean, accessFlags := 4120, slot := 0, constantValue := 0 }]
  methods := #[k12m0, k12m1, k12m2]
  instanceTypes := #[]
  staticTypes := #[.boolean]
  resolved := Array.replicate 395 none
  statics := none }

def pool13 : Array CpInfo := pool [(2, .class_ 4), (1, u "java/lang/Object"), (0, u "<init>"), (0, u "()V"), (7, .class_ 16), (1, u "java/util/Arrays"), (57, .class_ 76), (1, u "java/util/Arrays$NaturalOrder"), (36, .class_ 115), (1, u "java/util/Arrays$LegacyMergeSort"), (1, u "Z"), (21, u "copyOfRange"), (10, .methodref 151 152), (0, .class_ 153), (0, .nameAndType 154 155), (0, u "java/lang/System"), (0, u "arraycopy"), (0, u "(Ljava/lang/Object;ILjava/lang/Object;II)V"), (148, .methodref 305 306), (0, .class_ 307), (0, .nameAndType 308 309), (0, u "java/lang/Math"), (0, u "min"), (0, u "(II)I"), (29, .methodref 14 340), (0, .nameAndType 341 342), (0, u "copyOfRangeByte"), (0, u "([BII)[B"), (0, .methodref 14 344), (0, .nameAndType 345 346), (0, u "checkLength"), (0, u "(II)V"), (28, .class_ 376), (0, u "java/util/Arrays$ArrayList"), (68, u "$assertionsDisabled"), (269, u "MIN_ARRAY_SORT_GRAN"), (0, u "I"), (2, u "INSERTIONSORT_THRESHOLD"), (255, .class_ 976), (0, u "java/util/Arrays$ArrayItr")] 52

def k13m0 : Method := { name := "<init>", desc := "()V", sig := { parameters := [], returnType := none }, accessFlags := 2, code := none }
def k13c1 : Code := { maxStack := 4, maxLocals := 2, code := jdk_65_method_131_code, exceptionTable := #[], attributes := #[] }
def k13m1 : Method := { name := "checkLength", desc := "(II)V", sig := { parameters := [.int, .int], returnType := none }, accessFlags := 10, code := some k13c1 }
def k13c2 : Code := { maxStack := 3, maxLocals := 3, code := jdk_65_method_132_code, exceptionTable := #[], attributes := #[] }
def k13m2 : Method := { name := "copyOfRange", desc := "([BII)[B", sig := { parameters := [(.array .byte), .int, .int], returnType := some (.array .byte) }, accessFlags := 9, code := some k13c2 }
def k13c3 : Code := { maxStack := 6, maxLocals := 5, code := jdk_65_method_133_code, exceptionTable := #[], attributes := #[] }
def k13m3 : Method := { name := "copyOfRangeByte", desc := "([BII)[B", sig := { parameters := [(.array .byte), .int, .int], returnType := some (.array .byte) }, accessFlags := 10, code := some k13c3 }
/-- java/util/Arrays -/
def k13 : Class := { plain "java/util/Arrays" (some 0) with
  accessFlags := 49
  interfaces := #[]
  cf := some (fileOf pool13 14 #[.nestMembers #[975, 375, 113, 74]] #[{ accessFlags := 2, nameIndex := 5, descriptorIndex := 6, attributes := #[] }, { accessFlags := 10, nameIndex := 345, descriptorIndex := 346, attributes := #[] }, { accessFlags := 9, nameIndex := 139, descriptorIndex := 342, attributes := #[] }, { accessFlags := 10, nameIndex := 341, descriptorIndex := 342, attributes := #[] }] 49 2 #[] #[{ accessFlags := 26, nameIndex := 715, descriptorIndex := 716, attributes := #[] }, { accessFlags := 26, nameIndex := 719, descriptorIndex := 716, attributes := #[] }, { accessFlags := 4120, nameIndex := 445, descriptorIndex := 117, attributes := #[] }])
  fields := #[{ name := "MIN_ARRAY_SORT_GRAN", type := .int, accessFlags := 26, slot := 0, constantValue := 0 }, { name := "INSERTIONSORT_THRESHOLD", type := .int, accessFlags := 26, slot := 1, constantValue := 0 }, { name := "$assertionsDisabled", type := .boolean, accessFlags := 4120, slot := 2, constantValue := 0 }]
  methods := #[k13m0, k13m1, k13m2, k13m3]
  instanceTypes := #[]
  staticTypes := #[.int, .int, .boolean]
  resolved := Array.replicate 1029 none
  statics := none }

def pool14 : Array CpInfo := pool [(1, .class_ 2), (0, u "java/lang/Math"), (1, .class_ 6), (1, u "java/lang/Object"), (0, u "<init>"), (0, u "()V"), (89, .class_ 100), (1, u "java/lang/Math$RandomNumberGeneratorHolder"), (71, u "negativeZeroFloatBits"), (0, u "J"), (2, u "negativeZeroDoubleBits"), (24, u "min"), (43, u "$assertionsDisabled"), (0, u "Z"), (88, u "(II)I"), (2, u "twoToTheDoubleScaleDown"), (0, u "D"), (4, u "twoToTheDoubleScaleUp"), (9, u "E"), (3, u "PI"), (2, u "TAU"), (2, u "DEGREES_TO_RADIANS"), (0, u "RADIANS_TO_DEGREES")] 94

def k14m0 : Method := { name := "<init>", desc := "()V", sig := { parameters := [], returnType := none }, accessFlags := 2, code := none }
def k14c1 : Code := { maxStack := 2, maxLocals := 2, code := jdk_29_method_69_code, exceptionTable := #[], attributes := #[] }
def k14m1 : Method := { name := "min", desc := "(II)I", sig := { parameters := [.int, .int], returnType := some .int }, accessFlags := 9, code := some k14c1 }
/-- java/lang/Math -/
def k14 : Class := { plain "java/lang/Math" (some 0) with
  accessFlags := 49
  interfaces := #[]
  cf := some (fileOf pool14 1 #[.nestMembers #[98]] #[{ accessFlags := 2, nameIndex := 7, descriptorIndex := 8, attributes := #[] }, { accessFlags := 9, nameIndex := 201, descriptorIndex := 335, attributes := #[] }] 49 4 #[] #[{ accessFlags := 25, nameIndex := 354, descriptorIndex := 339, attributes := #[] }, { accessFlags := 25, nameIndex := 358, descriptorIndex := 339, attributes := #[] }, { accessFlags := 25, nameIndex := 361, descriptorIndex := 339, attributes := #[] }, { accessFlags := 26, nameIndex := 364, descriptorIndex := 339, attributes := #[] }, { accessFlags := 26, nameIndex := 365, descriptorIndex := 339, attributes := #[] }, { accessFlags := 26, nameIndex := 172, descriptorIndex := 173, attributes := #[] }, { accessFlags := 26, nameIndex := 176, descriptorIndex := 173, attributes := #[] }, { accessFlags := 8, nameIndex := 344, descriptorIndex := 339, attributes := #[] }, { accessFlags := 8, nameIndex := 338, descriptorIndex := 339, attributes := #[] }, { accessFlags := 4120, nameIndex := 245, descriptorIndex := 246, attributes := #[] }])
  fields := #[{ name := "E", type := .double, accessFlags := 25, slot := 0, constantValue := 0 }, { name := "PI", type := .double, accessFlags := 25, slot := 1, constantValue := 0 }, { name := "TAU", type := .double, accessFlags := 25, slot := 2, constantValue := 0 }, { name := "DEGREES_TO_RADIANS", type := .double, accessFlags := 26, slot := 3, constantValue := 0 }, { name := "RADIANS_TO_DEGREES", type := .double, accessFlags := 26, slot := 4, constantValue := 0 }, { name := "negativeZeroFloatBits", type := .long, accessFlags := 26, slot := 5, constantValue := 0 }, { name := "negativeZeroDoubleBits", type := .long, accessFlags := 26, slot := 6, constantValue := 0 }, { name := "twoToTheDoubleScaleUp", type := .double, accessFlags := 8, slot := 7, constantValue := 0 }, { name := "twoToTheDoubleScaleDown", type := .double, accessFlags := 8, slot := 8, constantValue := 0 }, { name := "$assertionsDisabled", type := .boolean, accessFlags := 4120, slot := 9, constantValue := 0 }]
  methods := #[k14m0, k14m1]
  instanceTypes := #[]
  staticTypes := #[.double, .double, .double, .double, .double, .long, .long, .double, .double, .boolean]
  resolved := Array.replicate 460 none
  statics := none }

def pool15 : Array CpInfo := pool [(2, .class_ 4), (1, u "java/lang/Object"), (0, u "<init>"), (0, u "()V"), (1, .class_ 10), (1, u "java/lang/System"), (0, u "allowSecurityManager"), (0, u "I"), (16, u "cons"), (0, u "Ljava/io/Console;"), (77, .class_ 110), (1, u "java/lang/System$CallersHolder"), (43, u "initialErrStream"), (0, u "Ljava/io/PrintStream;"), (19, u "security"), (0, u "Ljava/lang/SecurityManager;"), (31, .class_ 209), (0, u "java/lang/System$1"), (7, u "props"), (0, u "Ljava/util/Properties;"), (2, u "lineSeparator"), (0, u "Ljava/lang/String;"), (96, .class_ 321), (1, u "java/lang/System$LoggerFinder"), (5, .class_ 328), (0, u "java/lang/System$Logger"), (67, u "err"), (2, u "out"), (91, u "notSupportedJnuEncoding"), (15, u "in"), (17, u "initialIn"), (0, u "Ljava/io/InputStream;"), (35, u "bootLayer"), (0, u "Ljava/lang/ModuleLayer;"), (99, .class_ 664), (0, u "java/lang/System$2"), (9, u "NEVER"), (2, u "MAYBE"), (49, u "arraycopy"), (0, u "(Ljava/lang/Object;ILjava/lang/Object;II)V"), (72, .class_ 802), (0, u "java/lang/System$Logger$Level")] 31

def k15m0 : Method := { name := "<init>", desc := "()V", sig := { parameters := [], returnType := none }, accessFlags := 2, code := none }
def k15m1 : Method := { name := "arraycopy", desc := "(Ljava/lang/Object;ILjava/lang/Object;II)V", sig := { parameters := [(.object "java/lang/Object"), .int, (.object "java/lang/Object"), .int, .int], returnType := none }, accessFlags := 265, code := none }
/-- java/lang/System -/
def k15 : Class := { plain "java/lang/System" (some 0) with
  accessFlags := 49
  interfaces := #[]
  cf := some (fileOf pool15 8 #[.nestMembers #[319, 327, 801, 108, 663, 208]] #[{ accessFlags := 2, nameIndex := 5, descriptorIndex := 6, attributes := #[] }, { accessFlags := 265, nameIndex := 727, descriptorIndex := 728, attributes := #[] }] 49 2 #[] #[{ accessFlags := 25, nameIndex := 507, descriptorIndex := 526, attributes := #[] }, { accessFlags := 25, nameIndex := 399, descriptorIndex := 155, attributes := #[] }, { accessFlags := 25, nameIndex := 396, descriptorIndex := 155, attributes := #[] }, { accessFlags := 10, nameIndex := 525, descriptorIndex := 526, attributes := #[] }, { accessFlags := 26, nameIndex := 674, descriptorIndex := 12, attributes := #[] }, { accessFlags := 26, nameIndex := 677, descriptorIndex := 12, attributes := #[] }, { accessFlags := 10, nameIndex := 11, descriptorIndex := 12, attributes := #[] }, { accessFlags := 74, nameIndex := 175, descriptorIndex := 176, attributes := #[] }, { accessFlags := 10, nameIndex := 491, descriptorIndex := 222, attributes := #[] }, { accessFlags := 74, nameIndex := 29, descriptorIndex := 30, attributes := #[] }, { accessFlags := 74, nameIndex := 154, descriptorIndex := 155, attributes := #[] }, { accessFlags := 10, nameIndex := 217, descriptorIndex := 218, attributes := #[] }, { accessFlags := 10, nameIndex := 221, descriptorIndex := 222, attributes := #[] }, { accessFlags := 8, nameIndex := 562, descriptorIndex := 563, attributes := #[] }])
  fields := #[{ name := "in", type := (.object "java/io/InputStream"), accessFlags := 25, slot := 0, constantValue := 0 }, { name := "out", type := (.object "java/io/PrintStream"), accessFlags := 25, slot := 1, constantValue := 0 }, { name := "err", type := (.object "java/io/PrintStream"), accessFlags := 25, slot := 2, constantValue := 0 }, { name := "initialIn", type := (.object "java/io/InputStream"), accessFlags := 10, slot := 3, constantValue := 0 }, { name := "NEVER", type := .int, accessFlags := 26, slot := 4, constantValue := 0 }, { name := "MAYBE", type := .int, accessFlags := 26, slot := 5, constantValue := 0 }, { name := "allowSecurityManager", type := .int, accessFlags := 10, slot := 6, constantValue := 0 }, { name := "security", type := (.object "java/lang/SecurityManager"), accessFlags := 74, slot := 7, constantValue := 0 }, { name := "notSupportedJnuEncoding", type := (.object "java/lang/String"), accessFlags := 10, slot := 8, constantValue := 0 }, { name := "cons", type := (.object "java/io/Console"), accessFlags := 74, slot := 9, constantValue := 0 }, { name := "initialErrStream", type := (.object "java/io/PrintStream"), accessFlags := 74, slot := 10, constantValue := 0 }, { name := "props", type := (.object "java/util/Properties"), accessFlags := 10, slot := 11, constantValue := 0 }, { name := "lineSeparator", type := (.object "java/lang/String"), accessFlags := 10, slot := 12, constantValue := 0 }, { name := "bootLayer", type := (.object "java/lang/ModuleLayer"), accessFlags := 8, slot := 13, constantValue := 0 }]
  methods := #[k15m0, k15m1]
  instanceTypes := #[]
  staticTypes := #[(.object "java/io/InputStream"), (.object "java/io/PrintStream"), (.object "java/io/PrintStream"), (.object "java/io/InputStream"), .int, .int, .int, (.object "java/lang/SecurityManager"), (.object "java/lang/String"), (.object "java/io/Console"), (.object "java/io/PrintStream"), (.object "java/util/Properties"), (.object "java/lang/String"), (.object "java/lang/ModuleLayer")]
  resolved := Array.replicate 834 none
  statics := none }

def pool16 : Array CpInfo := pool [(9, u "<init>"), (6, .class_ 18), (1, u "java/lang/Object"), (0, u "()V"), (1, .class_ 23), (1, u "jdk/internal/util/ArraysSupport"), (0, u "LOG2_ARRAY_LONG_INDEX_SCALE"), (0, u "I"), (2, u "U"), (0, u "Ljdk/internal/misc/Unsafe;"), (8, u "BIG_ENDIAN"), (0, u "Z"), (8, u "LOG2_BYTE_BIT_SIZE"), (4, u "LOG2_ARRAY_INT_INDEX_SCALE"), (54, u "JLA"), (0, u "Ljdk/internal/access/JavaLangAccess;"), (11, u "LOG2_ARRAY_BOOLEAN_INDEX_SCALE"), (9, u "LOG2_ARRAY_BYTE_INDEX_SCALE"), (5, u "LOG2_ARRAY_CHAR_INDEX_SCALE"), (5, u "LOG2_ARRAY_SHORT_INDEX_SCALE"), (18, u "LOG2_ARRAY_FLOAT_INDEX_SCALE"), (24, u "LOG2_ARRAY_DOUBLE_INDEX_SCALE"), (89, u "T_BOOLEAN"), (2, u "T_CHAR"), (1, u "T_FLOAT"), (1, u "T_DOUBLE"), (1, u "T_BYTE"), (1, u "T_SHORT"), (1, u "T_INT"), (1, u "T_LONG"), (1, u "SOFT_MAX_ARRAY_LENGTH")] 83

def k16m0 : Method := { name := "<init>", desc := "()V", sig := { parameters := [], returnType := none }, accessFlags := 2, code := none }
/-- jdk/internal/util/ArraysSupport -/
def k16 : Class := { plain "jdk/internal/util/ArraysSupport" (some 0) with
  accessFlags := 33
  interfaces := #[]
  cf := some (fileOf pool16 21 #[] #[{ accessFlags := 2, nameIndex := 9, descriptorIndex := 19, attributes := #[] }] 33 16 #[] #[{ accessFlags := 24, nameIndex := 28, descriptorIndex := 29, attributes := #[] }, { accessFlags := 26, nameIndex := 38, descriptorIndex := 39, attributes := #[] }, { accessFlags := 25, nameIndex := 121, descriptorIndex := 25, attributes := #[] }, { accessFlags := 25, nameIndex := 131, descriptorIndex := 25, attributes := #[] }, { accessFlags := 25, nameIndex := 137, descriptorIndex := 25, attributes := #[] }, { accessFlags := 25, nameIndex := 143, descriptorIndex := 25, attributes := #[] }, { accessFlags := 25, nameIndex := 53, descriptorIndex := 25, attributes := #[] }, { accessFlags := 25, nameIndex := 24, descriptorIndex := 25, attributes := #[] }, { accessFlags := 25, nameIndex := 162, descriptorIndex := 25, attributes := #[] }, { accessFlags := 25, nameIndex := 187, descriptorIndex := 25, attributes := #[] }, { accessFlags := 26, nameIndex := 48, descriptorIndex := 25, attributes := #[] }, { accessFlags := 25, nameIndex := 277, descriptorIndex := 25, attributes := #[] }, { accessFlags := 25, nameIndex := 280, descriptorIndex := 25, attributes := #[] }, { accessFlags := 25, nameIndex := 282, descriptorIndex := 25, attributes := #[] }, { accessFlags := 25, nameIndex := 284, descriptorIndex := 25, attributes := #[] }, { accessFlags := 25, nameIndex := 286, descriptorIndex := 25, attributes := #[] }, { accessFlags := 25, nameIndex := 288, descriptorIndex := 25, attributes := #[] }, { accessFlags := 25, nameIndex := 290, descriptorIndex := 25, attributes := #[] }, { accessFlags := 25, nameIndex := 292, descriptorIndex := 25, attributes := #[] }, { accessFlags := 26, nameIndex := 108, descriptorIndex := 109, attributes := #[] }, { accessFlags := 25, nameIndex := 294, descriptorIndex := 25, attributes := #[] }])
  fields := #[{ name := "U", type := (.object "jdk/internal/misc/Unsafe"), accessFlags := 24, slot := 0, constantValue := 0 }, { name := "BIG_ENDIAN", type := .boolean, accessFlags := 26, slot := 1, constantValue := 0 }, { name := "LOG2_ARRAY_BOOLEAN_INDEX_SCALE", type := .int, accessFlags := 25, slot := 2, constantValue := 0 }, { name := "LOG2_ARRAY_BYTE_INDEX_SCALE", type := .int, accessFlags := 25, slot := 3, constantValue := 0 }, { name := "LOG2_ARRAY_CHAR_INDEX_SCALE", type := .int, accessFlags := 25, slot := 4, constantValue := 0 }, { name := "LOG2_ARRAY_SHORT_INDEX_SCALE", type := .int, accessFlags := 25, slot := 5, constantValue := 0 }, { name := "LOG2_ARRAY_INT_INDEX_SCALE", type := .int, accessFlags := 25, slot := 6, constantValue := 0 }, { name := "LOG2_ARRAY_LONG_INDEX_SCALE", type := .int, accessFlags := 25, slot := 7, constantValue := 0 }, { name := "LOG2_ARRAY_FLOAT_INDEX_SCALE", type := .int, accessFlags := 25, slot := 8, constantValue := 0 }, { name := "LOG2_ARRAY_DOUBLE_INDEX_SCALE", type := .int, accessFlags := 25, slot := 9, constantValue := 0 }, { name := "LOG2_BYTE_BIT_SIZE", type := .int, accessFlags := 26, slot := 10, constantValue := 0 }, { name := "T_BOOLEAN", type := .int, accessFlags := 25, slot := 11, constantValue := 0 }, { name := "T_CHAR", type := .int, accessFlags := 25, slot := 12, constantValue := 0 }, { name := "T_FLOAT", type := .int, accessFlags := 25, slot := 13, constantValue := 0 }, { name := "T_DOUBLE", type := .int, accessFlags := 25, slot := 14, constantValue := 0 }, { name := "T_BYTE", type := .int, accessFlags := 25, slot := 15, constantValue := 0 }, { name := "T_SHORT", type := .int, accessFlags := 25, slot := 16, constantValue := 0 }, { name := "T_INT", type := .int, accessFlags := 25, slot := 17, constantValue := 0 }, { name := "T_LONG", type := .int, accessFlags := 25, slot := 18, constantValue := 0 }, { name := "JLA", type := (.object "jdk/internal/access/JavaLangAccess"), accessFlags := 26, slot := 19, constantValue := 0 }, { name := "SOFT_MAX_ARRAY_LENGTH", type := .int, accessFlags := 25, slot := 20, constantValue := 0 }]
  methods := #[k16m0]
  instanceTypes := #[]
  staticTypes := #[(.object "jdk/internal/misc/Unsafe"), .boolean, .int, .int, .int, .int, .int, .int, .int, .int, .int, .int, .int, .int, .int, .int, .int, .int, .int, (.object "jdk/internal/access/JavaLangAccess"), .int]
  resolved := Array.replicate 378 none
  statics := none }

def pool17 : Array CpInfo := pool [(1, u "java/lang/Cloneable"), (0, .class_ 1), (0, u "java/lang/Object"), (0, .class_ 3)] 3

/-- java/lang/Cloneable -/
def k17 : Class := { plain "java/lang/Cloneable" (some 0) with
  accessFlags := 1537
  interfaces := #[]
  cf := some (fileOf pool17 2 #[] #[] 1537 4 #[] #[])
  fields := #[]
  methods := #[]
  instanceTypes := #[]
  staticTypes := #[]
  resolved := Array.replicate 8 none
  statics := none }

/-- the primitive byte -/
def k18 : Class := { plain "byte" none with kind := .primitive 'B', accessFlags := 0x411 }
/-- [B -/
def k19 : Class := { plain "[B" (some 0) with kind := .array 18 .byte, interfaces := #[17, 2], accessFlags := 1041 }

/-- the primitive char -/
def k20 : Class := { plain "char" none with kind := .primitive 'C', accessFlags := 0x411 }
/-- [C -/
def k21 : Class := { plain "[C" (some 0) with kind := .array 20 .char, interfaces := #[17, 2], accessFlags := 1041 }

/-- the primitive int -/
def k22 : Class := { plain "int" none with kind := .primitive 'I', accessFlags := 0x411 }
/-- [I -/
def k23 : Class := { plain "[I" (some 0) with kind := .array 22 .int, interfaces := #[17, 2], accessFlags := 1041 }

def heap : Heap := #[{ cls := 7, slots := #[.long 0, .int 1, .null, .int 0, .null, .int 0, .int 0], vm := .statics 7 },
  { cls := 11, slots := #[.null, .null, .null], vm := .statics 11 }]
def classes : Array Class := #[k0, k1, k2, k3, k4, k5, k6, k7, k8, k9, k10, k11, k12, k13, k14, k15, k16, k17, k18, k19, k20, k21, k22, k23]
def interned : List (Array UInt16 × Addr) := []
def slotsUsed : Nat := 10
def theMethod : MethodId := ⟨1, 1⟩
def args0 : Array Value := #[.int 5, .int 5, .int 5, .int 5]
def aboutOver (below : List Frame) : State where
  vm := { classes := classes, interned := interned.toArray }
  heap := heap
  slotsUsed := slotsUsed
  threads := #[{ frames := .invoking theMethod args0 :: below }]
def below0 : List Frame := [.native { method := ⟨0, 0⟩, args := #[] }]
def about1 : State := aboutOver below0
def p0 : Program := .bare "" "" ""
def e0 : Env := launch0.env 0 0 0
theorem w_frames : about1.frames = Frame.invoking theMethod args0 :: below0 := rfl
set_option maxRecDepth 65536 in
theorem w_args : argsFit about1.vm theMethod args0 = true := by decide +kernel
set_option maxRecDepth 65536 in
theorem w_heap : heapFits about1 = true := by decide +kernel
set_option maxRecDepth 65536 in
theorem w_runnable : about1.curStatus? = some .runnable := by decide +kernel
set_option maxRecDepth 65536 in
theorem w_alone : about1.alone = true := by decide +kernel
set_option maxRecDepth 65536 in
theorem w_named : about1.methodNamed? x = some theMethod := by decide +kernel
set_option maxRecDepth 65536 in
theorem w_hears : about1.hears theMethod below0 = true := by decide +kernel
set_option maxRecDepth 65536 in
theorem w_ripe : about1.ripe theMethod args0 below0 = true := by decide +kernel
theorem w_running : about1.status = .running := rfl
set_option maxRecDepth 65536 in
theorem w_room : about1.hasRoom e0.platform room_1 = true :=
  launch0.hasRoom_least _ room_1 (by decide +kernel) (by decide +kernel) (by decide +kernel) (by decide +kernel) (by decide +kernel) (by decide +kernel)
theorem allAtoms_all (ts : List Jvm.Cond) (a : Array Jvm.Value) (st : Jvm.State) : (allAtoms ts).before a st = ts.all (fun c => c.before a st) := by
  induction ts with
  | nil => rfl
  | cons c t ih =>
    show (Jvm.Cond.and c (allAtoms t)).before a st = _
    rw [Jvm.Cond.before_and, ih, List.all_cons]
def words1 : List Jvm.Cond := Jvm.Cond.code x code maxLocals ret :: tables_1
/-- a 'code' word, met by the world's own term for the bytes: nothing is compared byte by byte -/
theorem code_word {y : MethodName} {bytes : ByteArray} {mx : Nat} {rt : Option FieldType} {a : Array Value} {s : State} {m : MethodId} {meth : Method} {c : Code} (h1 : s.methodNamed? y = some m) (h2 : s.vm.method? m = some meth) (h3 : meth.code = some c) (h4 : c.code = bytes)
    (h5 : (c.maxLocals == mx && c.exceptionTable.isEmpty && decide (c.maxStack ≤ mostOperands) && decide (meth.sig.returnType = rt) && !meth.locks && decide (parseMethodDescriptor y.desc = some meth.sig)) = true) : (Jvm.Cond.code y bytes mx rt).before a s = true := by
  simp only [Bool.and_eq_true, beq_iff_eq, Bool.not_eq_true', decide_eq_true_eq] at h5
  obtain ⟨⟨⟨⟨⟨g1, g2⟩, g3⟩, g4⟩, g5⟩, g6⟩ := h5
  simp [Cond.before, Cond.holds, Cond.value, h1, h2, h3, h4, g1, g2, g3, g4, g5, g6]
def isCode : Jvm.Cond → Bool
  | .code _ _ _ _ => true
  | _ => false
theorem all_split {L : List Jvm.Cond} {P : Jvm.Cond → Bool} (h1 : L.all (fun c => isCode c || P c) = true) (h2 : ∀ c ∈ L.filter isCode, P c = true) : L.all P = true := by
  refine List.all_eq_true.mpr fun c hc => ?_
  have h := List.all_eq_true.mp h1 c hc
  rcases Bool.eq_false_or_eq_true (isCode c) with hi | hi
  · exact h2 c (List.mem_filter.mpr ⟨hc, hi⟩)
  · simpa [hi] using h
set_option maxRecDepth 65536 in
theorem w_c0 : (Jvm.Cond.code x code maxLocals ret).before args0 about1 = true := code_word (m := ⟨1, 1⟩) (meth := k1m1) (c := k1c1) (by decide +kernel) rfl rfl rfl (by decide +kernel)
set_option maxRecDepth 65536 in
theorem w_c1 : (Jvm.Cond.code ({ cls := "com/example/portunus/portunus/io/InvalidationDirectoryOfPinLaw", name := "plain", desc := "(ICCC)Ljava/lang/String;" } : Jvm.MethodName) method_3_code (4 : Nat) (Option.some (Jvm.ClassFile.FieldType.object "java/lang/String"))).before args0 about1 = true := code_word (m := ⟨1, 2⟩) (meth := k1m2) (c := k1c2) (by decide +kernel) rfl rfl rfl (by decide +kernel)
set_option maxRecDepth 65536 in
theorem w_c2 : (Jvm.Cond.code ({ cls := "java/lang/String", name := "<init>", desc := "([C)V" } : Jvm.MethodName) jdk_42_method_3_code (2 : Nat) (Option.none : Option Jvm.ClassFile.FieldType)).before args0 about1 = true := code_word (m := ⟨7, 1⟩) (meth := k7m1) (c := k7c1) (by decide +kernel) rfl rfl rfl (by decide +kernel)
set_option maxRecDepth 65536 in
theorem w_c3 : (Jvm.Cond.code ({ cls := "java/lang/String", name := "<init>", desc := "([CIILjava/lang/Void;)V" } : Jvm.MethodName) jdk_42_method_149_code (6 : Nat) (Option.none : Option Jvm.ClassFile.FieldType)).before args0 about1 = true := code_word (m := ⟨7, 5⟩) (meth := k7m5) (c := k7c5) (by decide +kernel) rfl rfl rfl (by decide +kernel)
set_option maxRecDepth 65536 in
theorem w_c4 : (Jvm.Cond.code ({ cls := "java/lang/Object", name := "<init>", desc := "()V" } : Jvm.MethodName) object_method_1_code (1 : Nat) (Option.none : Option Jvm.ClassFile.FieldType)).before args0 about1 = true := code_word (m := ⟨0, 0⟩) (meth := k0m0) (c := k0c0) (by decide +kernel) rfl rfl rfl (by decide +kernel)
set_option maxRecDepth 65536 in
theorem w_c5 : (Jvm.Cond.code ({ cls := "com/example/portunus/portunus/io/InvalidationDirectoryOfPinLaw", name := "withSlash", desc := "(ICCC)Ljava/lang/String;" } : Jvm.MethodName) method_4_code (4 : Nat) (Option.some (Jvm.ClassFile.FieldType.object "java/lang/String"))).before args0 about1 = true := code_word (m := ⟨1, 3⟩) (meth := k1m3) (c := k1c3) (by decide +kernel) rfl rfl rfl (by decide +kernel)
set_option maxRecDepth 65536 in
theorem w_c6 : (Jvm.Cond.code ({ cls := "java/lang/StringUTF16", name := "compress", desc := "([CII)[B" } : Jvm.MethodName) jdk_52_method_16_code (6 : Nat) (Option.some (Jvm.ClassFile.FieldType.array Jvm.ClassFile.FieldType.byte))).before args0 about1 = true := code_word (m := ⟨8, 2⟩) (meth := k8m2) (c := k8c2) (by decide +kernel) rfl rfl rfl (by decide +kernel)
set_option maxRecDepth 65536 in
theorem w_c7 : (Jvm.Cond.code ({ cls := "java/lang/StringUTF16", name := "compress", desc := "([CI[BII)I" } : Jvm.MethodName) jdk_52_method_21_code (7 : Nat) (Option.some Jvm.ClassFile.FieldType.int)).before args0 about1 = true := code_word (m := ⟨8, 3⟩) (meth := k8m3) (c := k8c3) (by decide +kernel) rfl rfl rfl (by decide +kernel)
set_option maxRecDepth 65536 in
theorem w_c8 : (Jvm.Cond.code ({ cls := "java/lang/StringUTF16", name := "coderFromArrayLen", desc := "([BI)B" } : Jvm.MethodName) jdk_52_method_15_code (2 : Nat) (Option.some Jvm.ClassFile.FieldType.byte)).before args0 about1 = true := code_word (m := ⟨8, 1⟩) (meth := k8m1) (c := k8c1) (by decide +kernel) rfl rfl rfl (by decide +kernel)
set_option maxRecDepth 65536 in
theorem w_c9 : (Jvm.Cond.code ({ cls := "com/example/portunus/portunus/io/Invalidation", name := "directoryOf", desc := "(Ljava/lang/String;)Ljava/lang/String;" } : Jvm.MethodName) prog_40_method_4_code (1 : Nat) (Option.some (Jvm.ClassFile.FieldType.object "java/lang/String"))).before args0 about1 = true := code_word (m := ⟨10, 0⟩) (meth := k10m0) (c := k10c0) (by decide +kernel) rfl rfl rfl (by decide +kernel)
set_option maxRecDepth 65536 in
theorem w_c10 : (Jvm.Cond.code ({ cls := "java/lang/String", name := "length", desc := "()I" } : Jvm.MethodName) jdk_42_method_54_code (1 : Nat) (Option.some Jvm.ClassFile.FieldType.int)).before args0 about1 = true := code_word (m := ⟨7, 2⟩) (meth := k7m2) (c := k7c2) (by decide +kernel) rfl rfl rfl (by decide +kernel)
set_option maxRecDepth 65536 in
theorem w_c11 : (Jvm.Cond.code ({ cls := "java/lang/String", name := "coder", desc := "()B" } : Jvm.MethodName) jdk_42_method_152_code (1 : Nat) (Option.some Jvm.ClassFile.FieldType.byte)).before args0 about1 = true := code_word (m := ⟨7, 7⟩) (meth := k7m7) (c := k7c7) (by decide +kernel) rfl rfl rfl (by decide +kernel)
set_option maxRecDepth 65536 in
theorem w_c12 : (Jvm.Cond.code ({ cls := "java/lang/String", name := "substring", desc := "(II)Ljava/lang/String;" } : Jvm.MethodName) jdk_42_method_92_code (5 : Nat) (Option.some (Jvm.ClassFile.FieldType.object "java/lang/String"))).before args0 about1 = true := code_word (m := ⟨7, 4⟩) (meth := k7m4) (c := k7c4) (by decide +kernel) rfl rfl rfl (by decide +kernel)
set_option maxRecDepth 65536 in
theorem w_c13 : (Jvm.Cond.code ({ cls := "java/lang/String", name := "checkBoundsBeginEnd", desc := "(III)V" } : Jvm.MethodName) jdk_42_method_158_code (3 : Nat) (Option.none : Option Jvm.ClassFile.FieldType)).before args0 about1 = true := code_word (m := ⟨7, 9⟩) (meth := k7m9) (c := k7c9) (by decide +kernel) rfl rfl rfl (by decide +kernel)
set_option maxRecDepth 65536 in
theorem w_c14 : (Jvm.Cond.code ({ cls := "jdk/internal/util/Preconditions", name := "checkFromToIndex", desc := "(IIILjava/util/function/BiFunction;)I" } : Jvm.MethodName) jdk_41_method_12_code (4 : Nat) (Option.some Jvm.ClassFile.FieldType.int)).before args0 about1 = true := code_word (m := ⟨11, 1⟩) (meth := k11m1) (c := k11c1) (by decide +kernel) rfl rfl rfl (by decide +kernel)
set_option maxRecDepth 65536 in
theorem w_c15 : (Jvm.Cond.code ({ cls := "java/lang/String", name := "isLatin1", desc := "()Z" } : Jvm.MethodName) jdk_42_method_154_code (1 : Nat) (Option.some Jvm.ClassFile.FieldType.boolean)).before args0 about1 = true := code_word (m := ⟨7, 8⟩) (meth := k7m8) (c := k7c8) (by decide +kernel) rfl rfl rfl (by decide +kernel)
set_option maxRecDepth 65536 in
theorem w_c16 : (Jvm.Cond.code ({ cls := "java/lang/StringLatin1", name := "newString", desc := "([BII)Ljava/lang/String;" } : Jvm.MethodName) jdk_43_method_47_code (3 : Nat) (Option.some (Jvm.ClassFile.FieldType.object "java/lang/String"))).before args0 about1 = true := code_word (m := ⟨12, 2⟩) (meth := k12m2) (c := k12c2) (by decide +kernel) rfl rfl rfl (by decide +kernel)
set_option maxRecDepth 65536 in
theorem w_c17 : (Jvm.Cond.code ({ cls := "java/lang/String", name := "equals", desc := "(Ljava/lang/Object;)Z" } : Jvm.MethodName) jdk_42_method_66_code (3 : Nat) (Option.some Jvm.ClassFile.FieldType.boolean)).before args0 about1 = true := code_word (m := ⟨7, 3⟩) (meth := k7m3) (c := k7c3) (by decide +kernel) rfl rfl rfl (by decide +kernel)
set_option maxRecDepth 65536 in
theorem w_c18 : (Jvm.Cond.code ({ cls := "java/lang/StringLatin1", name := "equals", desc := "([B[B)Z" } : Jvm.MethodName) jdk_43_method_13_code (3 : Nat) (Option.some Jvm.ClassFile.FieldType.boolean)).before args0 about1 = true := code_word (m := ⟨12, 1⟩) (meth := k12m1) (c := k12c1) (by decide +kernel) rfl rfl rfl (by decide +kernel)
set_option maxRecDepth 65536 in
theorem w_c19 : (Jvm.Cond.code ({ cls := "java/util/Arrays", name := "copyOfRange", desc := "([BII)[B" } : Jvm.MethodName) jdk_65_method_132_code (3 : Nat) (Option.some (Jvm.ClassFile.FieldType.array Jvm.ClassFile.FieldType.byte))).before args0 about1 = true := code_word (m := ⟨13, 2⟩) (meth := k13m2) (c := k13c2) (by decide +kernel) rfl rfl rfl (by decide +kernel)
set_option maxRecDepth 65536 in
theorem w_c20 : (Jvm.Cond.code ({ cls := "java/util/Arrays", name := "copyOfRangeByte", desc := "([BII)[B" } : Jvm.MethodName) jdk_65_method_133_code (5 : Nat) (Option.some (Jvm.ClassFile.FieldType.array Jvm.ClassFile.FieldType.byte))).before args0 about1 = true := code_word (m := ⟨13, 3⟩) (meth := k13m3) (c := k13c3) (by decide +kernel) rfl rfl rfl (by decide +kernel)
set_option maxRecDepth 65536 in
theorem w_c21 : (Jvm.Cond.code ({ cls := "java/util/Arrays", name := "checkLength", desc := "(II)V" } : Jvm.MethodName) jdk_65_method_131_code (2 : Nat) (Option.none : Option Jvm.ClassFile.FieldType)).before args0 about1 = true := code_word (m := ⟨13, 1⟩) (meth := k13m1) (c := k13c1) (by decide +kernel) rfl rfl rfl (by decide +kernel)
set_option maxRecDepth 65536 in
theorem w_c22 : (Jvm.Cond.code ({ cls := "java/lang/Math", name := "min", desc := "(II)I" } : Jvm.MethodName) jdk_29_method_69_code (2 : Nat) (Option.some Jvm.ClassFile.FieldType.int)).before args0 about1 = true := code_word (m := ⟨14, 1⟩) (meth := k14m1) (c := k14c1) (by decide +kernel) rfl rfl rfl (by decide +kernel)
set_option maxRecDepth 65536 in
theorem w_c23 : (Jvm.Cond.code ({ cls := "java/lang/String", name := "<init>", desc := "([BB)V" } : Jvm.MethodName) jdk_42_method_151_code (3 : Nat) (Option.none : Option Jvm.ClassFile.FieldType)).before args0 about1 = true := code_word (m := ⟨7, 6⟩) (meth := k7m6) (c := k7c6) (by decide +kernel) rfl rfl rfl (by decide +kernel)
def codes1 : List Jvm.Cond := [Jvm.Cond.code x code maxLocals ret, Jvm.Cond.code ({ cls := "com/example/portunus/portunus/io/InvalidationDirectoryOfPinLaw", name := "plain", desc := "(ICCC)Ljava/lang/String;" } : Jvm.MethodName) method_3_code (4 : Nat) (Option.some (Jvm.ClassFile.FieldType.object "java/lang/String")), Jvm.Cond.code ({ cls := "java/lang/String", name := "<init>", desc := "([C)V" } : Jvm.MethodName) jdk_42_method_3_code (2 : Nat) (Option.none : Option Jvm.ClassFile.FieldType), Jvm.Cond.code ({ cls := "java/lang/String", name := "<init>", desc := "([CIILjava/lang/Void;)V" } : Jvm.MethodName) jdk_42_method_149_code (6 : Nat) (Option.none : Option Jvm.ClassFile.FieldType), Jvm.Cond.code ({ cls := "java/lang/Object", name := "<init>", desc := "()V" } : Jvm.MethodName) object_method_1_code (1 : Nat) (Option.none : Option Jvm.ClassFile.FieldType), Jvm.Cond.code ({ cls := "com/example/portunus/portunus/io/InvalidationDirectoryOfPinLaw", name := "withSlash", desc := "(ICCC)Ljava/lang/String;" } : Jvm.MethodName) method_4_code (4 : Nat) (Option.some (Jvm.ClassFile.FieldType.object "java/lang/String")), Jvm.Cond.code ({ cls := "java/lang/StringUTF16", name := "compress", desc := "([CII)[B" } : Jvm.MethodName) jdk_52_method_16_code (6 : Nat) (Option.some (Jvm.ClassFile.FieldType.array Jvm.ClassFile.FieldType.byte)), Jvm.Cond.code ({ cls := "java/lang/StringUTF16", name := "compress", desc := "([CI[BII)I" } : Jvm.MethodName) jdk_52_method_21_code (7 : Nat) (Option.some Jvm.ClassFile.FieldType.int), Jvm.Cond.code ({ cls := "java/lang/StringUTF16", name := "coderFromArrayLen", desc := "([BI)B" } : Jvm.MethodName) jdk_52_method_15_code (2 : Nat) (Option.some Jvm.ClassFile.FieldType.byte), Jvm.Cond.code ({ cls := "com/example/portunus/portunus/io/Invalidation", name := "directoryOf", desc := "(Ljava/lang/String;)Ljava/lang/String;" } : Jvm.MethodName) prog_40_method_4_code (1 : Nat) (Option.some (Jvm.ClassFile.FieldType.object "java/lang/String")), Jvm.Cond.code ({ cls := "java/lang/String", name := "length", desc := "()I" } : Jvm.MethodName) jdk_42_method_54_code (1 : Nat) (Option.some Jvm.ClassFile.FieldType.int), Jvm.Cond.code ({ cls := "java/lang/String", name := "coder", desc := "()B" } : Jvm.MethodName) jdk_42_method_152_code (1 : Nat) (Option.some Jvm.ClassFile.FieldType.byte), Jvm.Cond.code ({ cls := "java/lang/String", name := "substring", desc := "(II)Ljava/lang/String;" } : Jvm.MethodName) jdk_42_method_92_code (5 : Nat) (Option.some (Jvm.ClassFile.FieldType.object "java/lang/String")), Jvm.Cond.code ({ cls := "java/lang/String", name := "checkBoundsBeginEnd", desc := "(III)V" } : Jvm.MethodName) jdk_42_method_158_code (3 : Nat) (Option.none : Option Jvm.ClassFile.FieldType), Jvm.Cond.code ({ cls := "jdk/internal/util/Preconditions", name := "checkFromToIndex", desc := "(IIILjava/util/function/BiFunction;)I" } : Jvm.MethodName) jdk_41_method_12_code (4 : Nat) (Option.some Jvm.ClassFile.FieldType.int), Jvm.Cond.code ({ cls := "java/lang/String", name := "isLatin1", desc := "()Z" } : Jvm.MethodName) jdk_42_method_154_code (1 : Nat) (Option.some Jvm.ClassFile.FieldType.boolean), Jvm.Cond.code ({ cls := "java/lang/StringLatin1", name := "newString", desc := "([BII)Ljava/lang/String;" } : Jvm.MethodName) jdk_43_method_47_code (3 : Nat) (Option.some (Jvm.ClassFile.FieldType.object "java/lang/String")), Jvm.Cond.code ({ cls := "java/lang/String", name := "equals", desc := "(Ljava/lang/Object;)Z" } : Jvm.MethodName) jdk_42_method_66_code (3 : Nat) (Option.some Jvm.ClassFile.FieldType.boolean), Jvm.Cond.code ({ cls := "java/lang/StringLatin1", name := "equals", desc := "([B[B)Z" } : Jvm.MethodName) jdk_43_method_13_code (3 : Nat) (Option.some Jvm.ClassFile.FieldType.boolean), Jvm.Cond.code ({ cls := "java/util/Arrays", name := "copyOfRange", desc := "([BII)[B" } : Jvm.MethodName) jdk_65_method_132_code (3 : Nat) (Option.some (Jvm.ClassFile.FieldType.array Jvm.ClassFile.FieldType.byte)), Jvm.Cond.code ({ cls := "java/util/Arrays", name := "copyOfRangeByte", desc := "([BII)[B" } : Jvm.MethodName) jdk_65_method_133_code (5 : Nat) (Option.some (Jvm.ClassFile.FieldType.array Jvm.ClassFile.FieldType.byte)), Jvm.Cond.code ({ cls := "java/util/Arrays", name := "checkLength", desc := "(II)V" } : Jvm.MethodName) jdk_65_method_131_code (2 : Nat) (Option.none : Option Jvm.ClassFile.FieldType), Jvm.Cond.code ({ cls := "java/lang/Math", name := "min", desc := "(II)I" } : Jvm.MethodName) jdk_29_method_69_code (2 : Nat) (Option.some Jvm.ClassFile.FieldType.int), Jvm.Cond.code ({ cls := "java/lang/String", name := "<init>", desc := "([BB)V" } : Jvm.MethodName) jdk_42_method_151_code (3 : Nat) (Option.none : Option Jvm.ClassFile.FieldType)]
set_option maxRecDepth 65536 in
theorem codes_eq : words1.filter isCode = codes1 := rfl
theorem w_codes : ∀ c ∈ words1.filter isCode, c.before args0 about1 = true := by
  rw [codes_eq]
  intro c hc
  simp only [codes1, List.mem_cons, List.not_mem_nil, or_false] at hc
  rcases hc with rfl | rfl | rfl | rfl | rfl | rfl | rfl | rfl | rfl | rfl | rfl | rfl | rfl | rfl | rfl | rfl | rfl | rfl | rfl | rfl | rfl | rfl | rfl | rfl
  · exact w_c0
  · exact w_c1
  · exact w_c2
  · exact w_c3
  · exact w_c4
  · exact w_c5
  · exact w_c6
  · exact w_c7
  · exact w_c8
  · exact w_c9
  · exact w_c10
  · exact w_c11
  · exact w_c12
  · exact w_c13
  · exact w_c14
  · exact w_c15
  · exact w_c16
  · exact w_c17
  · exact w_c18
  · exact w_c19
  · exact w_c20
  · exact w_c21
  · exact w_c22
  · exact w_c23
set_option maxRecDepth 65536 in
theorem w_t1 : (words1.take 24).all (fun c => isCode c || c.before args0 about1) = true := by decide +kernel
set_option maxRecDepth 65536 in
theorem w_t2 : ((words1.drop 24).take 24).all (fun c => isCode c || c.before args0 about1) = true := by decide +kernel
set_option maxRecDepth 65536 in
theorem w_t3 : (((words1.drop 24).drop 24).take 24).all (fun c => isCode c || c.before args0 about1) = true := by decide +kernel
set_option maxRecDepth 65536 in
theorem w_t4 : ((((words1.drop 24).drop 24).drop 24).take 24).all (fun c => isCode c || c.before args0 about1) = true := by decide +kernel
set_option maxRecDepth 65536 in
theorem w_t5 : ((((words1.drop 24).drop 24).drop 24).drop 24).all (fun c => isCode c || c.before args0 about1) = true := by decide +kernel
theorem w_tables : (allAtoms (Jvm.Cond.code x code maxLocals ret :: tables_1)).before args0 about1 = true := by
  rw [allAtoms_all]
  show words1.all (fun c => c.before args0 about1) = true
  refine all_split ?_ w_codes
  rw [← List.take_append_drop 24 words1, List.all_append, w_t1, ← List.take_append_drop 24 (words1.drop 24), List.all_append, w_t2, ← List.take_append_drop 24 ((words1.drop 24).drop 24), List.all_append, w_t3, ← List.take_append_drop 24 (((words1.drop 24).drop 24).drop 24), List.all_append, w_t4, w_t5]
  rfl
set_option maxRecDepth 65536 in
theorem w_rest : rest_1_c.before args0 about1 = true := by decide +kernel
set_option maxRecDepth 65536 in
theorem w_case : (Jvm.Cond.and given_1 narrow_1).before args0 about1 = true := by decide +kernel
set_option maxRecDepth 65536 in
theorem w_consts : constsHeld consts_1 about1 := Jvm.Lit.constsHeldB_iff.mp (by decide +kernel)
theorem w_applies : (headSpec (Jvm.Cond.code x code maxLocals ret :: tables_1) room_1).applies x e0.platform about1 = true :=
  (Spec.applies_iff w_frames).mpr ⟨w_running, w_runnable, w_alone, w_named, w_hears, w_ripe, w_room, w_tables⟩
theorem atStart : AtStart classFile x code maxLocals ret World_1 tables_1 room_1 Calls_1 rest_1 Pre_1 launch0 p0 e0 about1 theMethod args0 below0 :=
  ⟨lists_1, trivial, launch0.admits_env _ _ _, launch0.least_env, fairChoices_fair.cas, fairChoices_fair.clock, w_frames, w_args, w_heap, w_applies, ⟨w_consts, trivial⟩, w_rest, w_case⟩
end start1
theorem witness_1 : WitnessClaimed_1 := ⟨start1.p0, start1.e0, start1.about1, start1.theMethod, start1.args0, start1.below0, start1.atStart⟩
end Jvm.Pilot.@@N@@

import JvmDerived
import JvmDerived.Pilot.@@N@@Statement
import JvmDerived.Pilot.@@N@@Code
set_option linter.unusedVariables false
set_option linter.unusedSimpArgs false
namespace Jvm.Pilot.@@N@@
open Jvm Jvm.ClassFile Sem Op Lib Jvm.Free Jvm.Stand Jvm.LawKit Jvm.RoadKit Bundle Jvm.Pilot.@@N@@.Jvm.D
/-! THE LAYER own_: 'Ends': from this state the body ends as Q says; one lemma an instruction, over frames in the form mkF -/
section Own
variable {p : Program} {l : Launch} {e : Env} {R : Room} {s : State} {m : MethodId} {args : Array Value} {below : List Frame} {meth : Method} {c : Code} {T : State} {locs : List Loc} {cells slots : Nat}
variable {Q : Option Value → Heap → List Loc → Prop} {C S : Nat} {bc : ByteArray} {pc pc' : Nat} {Ls Ls' : Array Slot} {st : List Value} {Fz : Outcome → State → Prop}
def Ends (tb : Tables) (e : Env) (below : List Frame) (Fz : Outcome → State → Prop) (t : State) : Prop :=
  ∃ s₂ o, Steps tb e below t s₂ ∧ s₂.status = .running ∧ Ended s₂ below o ∧ Fz o s₂
def OwnFin (s : State) (Q : Option Value → Heap → List Loc → Prop) (C S : Nat) (o : Outcome) (s₂ : State) : Prop := ∃ v L, o = .returned v ∧ Q v s₂.heap L ∧ FrameEnd s o s₂ L C S
theorem Ends.of {tb : Tables} {t t' : State} (st : ∀ target, Steps tb e below t' target → Steps tb e below t target) (k : Ends tb e below Fz t') : Ends tb e below Fz t := by
  obtain ⟨s₂, o, h1, h2⟩ := k
  exact ⟨s₂, o, st _ h1, h2⟩
theorem Ends.tr {tb : Tables} {t t' : State} (st : Steps tb e below t t') (k : Ends tb e below Fz t') : Ends tb e below Fz t := Ends.of (fun _ q => st.trans q) k
theorem own_iloadN (X : Stand p l e R s m args below meth c T locs cells slots) (hx : p.tables.exec = Jvm.exec) (hby : c.code = bc) {k : Fin 4} {v : Int32} (hd : decode bc pc = .ok (.iload_n k, 1)) (hp : pc + 1 = pc') (hl : Ls[k.val]? = some (.val (.int v)))
    (kt : Ends p.tables e below Fz (T.setTop (mkF m pc' Ls (.int v :: st)))) : Ends p.tables e below Fz (T.setTop (mkF m pc Ls st)) := by
  subst hp; exact Ends.of (fun _ q => XS.iloadN X.here hx rfl (hb hby hd) hl q) kt
theorem own_iload (X : Stand p l e R s m args below meth c T locs cells slots) (hx : p.tables.exec = Jvm.exec) (hby : c.code = bc) {k : Nat} {v : Int32} (hd : decode bc pc = .ok (.iload k, 2)) (hp : pc + 2 = pc') (hl : Ls[k]? = some (.val (.int v)))
    (kt : Ends p.tables e below Fz (T.setTop (mkF m pc' Ls (.int v :: st)))) : Ends p.tables e below Fz (T.setTop (mkF m pc Ls st)) := by
  subst hp; exact Ends.of (fun _ q => XS.iload X.here hx rfl (hb hby hd) hl q) kt
theorem own_aloadN (X : Stand p l e R s m args below meth c T locs cells slots) (hx : p.tables.exec = Jvm.exec) (hby : c.code = bc) {k : Fin 4} {v : Value} (hd : decode bc pc = .ok (.aload_n k, 1)) (hp : pc + 1 = pc') (hl : Ls[k.val]? = some (.val v)) (hv : v.isRef = true)
    (kt : Ends p.tables e below Fz (T.setTop (mkF m pc' Ls (v :: st)))) : Ends p.tables e below Fz (T.setTop (mkF m pc Ls st)) := by
  subst hp; exact Ends.of (fun _ q => XS.aloadN X.here hx rfl (hb hby hd) hl hv q) kt
theorem own_aload (X : Stand p l e R s m args below meth c T locs cells slots) (hx : p.tables.exec = Jvm.exec) (hby : c.code = bc) {k : Nat} {v : Value} (hd : decode bc pc = .ok (.aload k, 2)) (hp : pc + 2 = pc') (hl : Ls[k]? = some (.val v)) (hv : v.isRef = true)
    (kt : Ends p.tables e below Fz (T.setTop (mkF m pc' Ls (v :: st)))) : Ends p.tables e below Fz (T.setTop (mkF m pc Ls st)) := by
  subst hp; exact Ends.of (fun _ q => XS.aload X.here hx rfl (hb hby hd) hl hv q) kt
theorem own_istoreN (X : Stand p l e R s m args below meth c T locs cells slots) (hx : p.tables.exec = Jvm.exec) (hby : c.code = bc) {k : Fin 4} {v : Int32} (hd : decode bc pc = .ok (.istore_n k, 1)) (hp : pc + 1 = pc') (Ls' : Array Slot) (hl : storeLocals Ls k.val (.int v) = some Ls')
    (kt : Ends p.tables e below Fz (T.setTop (mkF m pc' Ls' st))) : Ends p.tables e below Fz (T.setTop (mkF m pc Ls (.int v :: st))) := by
  subst hp; exact Ends.of (fun _ q => XS.istoreN X.here hx rfl (hb hby hd) rfl hl q) kt
theorem own_istore (X : Stand p l e R s m args below meth c T locs cells slots) (hx : p.tables.exec = Jvm.exec) (hby : c.code = bc) {k : Nat} {v : Int32} (hd : decode bc pc = .ok (.istore k, 2)) (hp : pc + 2 = pc') (Ls' : Array Slot) (hl : storeLocals Ls k (.int v) = some Ls')
    (kt : Ends p.tables e below Fz (T.setTop (mkF m pc' Ls' st))) : Ends p.tables e below Fz (T.setTop (mkF m pc Ls (.int v :: st))) := by
  subst hp; exact Ends.of (fun _ q => XS.istore X.here hx rfl (hb hby hd) rfl hl q) kt
theorem own_astoreN (X : Stand p l e R s m args below meth c T locs cells slots) (hx : p.tables.exec = Jvm.exec) (hby : c.code = bc) {k : Fin 4} {v : Value} (hd : decode bc pc = .ok (.astore_n k, 1)) (hp : pc + 1 = pc') (Ls' : Array Slot) (hv : v.isRef = true) (hl : storeLocals Ls k.val v = some Ls')
    (kt : Ends p.tables e below Fz (T.setTop (mkF m pc' Ls' st))) : Ends p.tables e below Fz (T.setTop (mkF m pc Ls (v :: st))) := by
  subst hp; exact Ends.of (fun _ q => XS.astoreN X.here hx rfl (hb hby hd) rfl hv hl q) kt
theorem own_astore (X : Stand p l e R s m args below meth c T locs cells slots) (hx : p.tables.exec = Jvm.exec) (hby : c.code = bc) {k : Nat} {v : Value} (hd : decode bc pc = .ok (.astore k, 2)) (hp : pc + 2 = pc') (Ls' : Array Slot) (hv : v.isRef = true) (hl : storeLocals Ls k v = some Ls')
    (kt : Ends p.tables e below Fz (T.setTop (mkF m pc' Ls' st))) : Ends p.tables e below Fz (T.setTop (mkF m pc Ls (v :: st))) := by
  subst hp; exact Ends.of (fun _ q => XS.astore X.here hx rfl (hb hby hd) rfl hv hl q) kt
theorem own_iconst (X : Stand p l e R s m args below meth c T locs cells slots) (hx : p.tables.exec = Jvm.exec) (hby : c.code = bc) {i : Int} (hd : decode bc pc = .ok (.iconst i, 1)) (hp : pc + 1 = pc') (v : Int32) (hv : Int32.ofInt i = v)
    (kt : Ends p.tables e below Fz (T.setTop (mkF m pc' Ls (.int v :: st)))) : Ends p.tables e below Fz (T.setTop (mkF m pc Ls st)) := by
  subst hp; exact Ends.of (fun _ q => by subst hv; exact XS.iconst X.here hx rfl (hb hby hd) q) kt
theorem own_bipush (X : Stand p l e R s m args below meth c T locs cells slots) (hx : p.tables.exec = Jvm.exec) (hby : c.code = bc) {i : Int} (hd : decode bc pc = .ok (.bipush i, 2)) (hp : pc + 2 = pc') (v : Int32) (hv : (Int8.ofInt i).toInt32 = v)
    (kt : Ends p.tables e below Fz (T.setTop (mkF m pc' Ls (.int v :: st)))) : Ends p.tables e below Fz (T.setTop (mkF m pc Ls st)) := by
  subst hp; exact Ends.of (fun _ q => by subst hv; exact XS.bipush X.here hx rfl (hb hby hd) q) kt
theorem own_sipush (X : Stand p l e R s m args below meth c T locs cells slots) (hx : p.tables.exec = Jvm.exec) (hby : c.code = bc) {i : Int} (hd : decode bc pc = .ok (.sipush i, 3)) (hp : pc + 3 = pc') (v : Int32) (hv : (Int16.ofInt i).toInt32 = v)
    (kt : Ends p.tables e below Fz (T.setTop (mkF m pc' Ls (.int v :: st)))) : Ends p.tables e below Fz (T.setTop (mkF m pc Ls st)) := by
  subst hp; exact Ends.of (fun _ q => by subst hv; exact XS.sipush X.here hx rfl (hb hby hd) q) kt
theorem own_aconstNull (X : Stand p l e R s m args below meth c T locs cells slots) (hx : p.tables.exec = Jvm.exec) (hby : c.code = bc)  (hd : decode bc pc = .ok (.aconst_null, 1)) (hp : pc + 1 = pc')
    (kt : Ends p.tables e below Fz (T.setTop (mkF m pc' Ls (.null :: st)))) : Ends p.tables e below Fz (T.setTop (mkF m pc Ls st)) := by
  subst hp; exact Ends.of (fun _ q => XS.aconstNull X.here hx rfl (hb hby hd) q) kt
theorem own_isub (X : Stand p l e R s m args below meth c T locs cells slots) (hx : p.tables.exec = Jvm.exec) (hby : c.code = bc) {x y : Int32} (hd : decode bc pc = .ok (.isub, 1)) (hp : pc + 1 = pc')
    (kt : Ends p.tables e below Fz (T.setTop (mkF m pc' Ls (.int (x - y) :: st)))) : Ends p.tables e below Fz (T.setTop (mkF m pc Ls (.int y :: .int x :: st))) := by
  subst hp; exact Ends.of (fun _ q => XS.isub X.here hx rfl (hb hby hd) rfl q) kt
theorem own_iand (X : Stand p l e R s m args below meth c T locs cells slots) (hx : p.tables.exec = Jvm.exec) (hby : c.code = bc) {x y : Int32} (hd : decode bc pc = .ok (.iand, 1)) (hp : pc + 1 = pc')
    (kt : Ends p.tables e below Fz (T.setTop (mkF m pc' Ls (.int (x &&& y) :: st)))) : Ends p.tables e below Fz (T.setTop (mkF m pc Ls (.int y :: .int x :: st))) := by
  subst hp; exact Ends.of (fun _ q => XS.iand X.here hx rfl (hb hby hd) rfl q) kt
theorem own_ior (X : Stand p l e R s m args below meth c T locs cells slots) (hx : p.tables.exec = Jvm.exec) (hby : c.code = bc) {x y : Int32} (hd : decode bc pc = .ok (.ior, 1)) (hp : pc + 1 = pc')
    (kt : Ends p.tables e below Fz (T.setTop (mkF m pc' Ls (.int (x ||| y) :: st)))) : Ends p.tables e below Fz (T.setTop (mkF m pc Ls (.int y :: .int x :: st))) := by
  subst hp; exact Ends.of (fun _ q => Jvm.Free.XT.ior X.here hx rfl (hb hby hd) rfl q) kt
theorem own_ishl (X : Stand p l e R s m args below meth c T locs cells slots) (hx : p.tables.exec = Jvm.exec) (hby : c.code = bc) {x : Int32} {y : Int32} (hd : decode bc pc = .ok (.ishl, 1)) (hp : pc + 1 = pc')
    (kt : Ends p.tables e below Fz (T.setTop (mkF m pc' Ls (.int (x <<< (y &&& 31)) :: st)))) : Ends p.tables e below Fz (T.setTop (mkF m pc Ls (.int y :: .int x :: st))) := by
  subst hp; exact Ends.of (fun _ q => Jvm.Free.XT.ishl X.here hx rfl (hb hby hd) rfl q) kt
theorem own_ishr (X : Stand p l e R s m args below meth c T locs cells slots) (hx : p.tables.exec = Jvm.exec) (hby : c.code = bc) {x : Int32} {y : Int32} (hd : decode bc pc = .ok (.ishr, 1)) (hp : pc + 1 = pc')
    (kt : Ends p.tables e below Fz (T.setTop (mkF m pc' Ls (.int (x >>> (y &&& 31)) :: st)))) : Ends p.tables e below Fz (T.setTop (mkF m pc Ls (.int y :: .int x :: st))) := by
  subst hp; exact Ends.of (fun _ q => Jvm.Free.XT.ishr X.here hx rfl (hb hby hd) rfl q) kt
theorem own_iushr (X : Stand p l e R s m args below meth c T locs cells slots) (hx : p.tables.exec = Jvm.exec) (hby : c.code = bc) {x : Int32} {y : Int32} (hd : decode bc pc = .ok (.iushr, 1)) (hp : pc + 1 = pc')
    (kt : Ends p.tables e below Fz (T.setTop (mkF m pc' Ls (.int ((x.toUInt32 >>> (y &&& 31).toUInt32).toInt32) :: st)))) : Ends p.tables e below Fz (T.setTop (mkF m pc Ls (.int y :: .int x :: st))) := by
  subst hp; exact Ends.of (fun _ q => Jvm.Free.XT.iushr X.here hx rfl (hb hby hd) rfl q) kt
theorem own_i2b (X : Stand p l e R s m args below meth c T locs cells slots) (hx : p.tables.exec = Jvm.exec) (hby : c.code = bc) {x : Int32} (hd : decode bc pc = .ok (.i2b, 1)) (hp : pc + 1 = pc')
    (kt : Ends p.tables e below Fz (T.setTop (mkF m pc' Ls (.int x.toInt8.toInt32 :: st)))) : Ends p.tables e below Fz (T.setTop (mkF m pc Ls (.int x :: st))) := by
  subst hp; exact Ends.of (fun _ q => Jvm.Free.XT.i2b X.here hx rfl (hb hby hd) rfl q) kt
theorem own_i2c (X : Stand p l e R s m args below meth c T locs cells slots) (hx : p.tables.exec = Jvm.exec) (hby : c.code = bc) {x : Int32} (hd : decode bc pc = .ok (.i2c, 1)) (hp : pc + 1 = pc')
    (kt : Ends p.tables e below Fz (T.setTop (mkF m pc' Ls (.int x.toUInt32.toUInt16.toUInt32.toInt32 :: st)))) : Ends p.tables e below Fz (T.setTop (mkF m pc Ls (.int x :: st))) := by
  subst hp; exact Ends.of (fun _ q => Jvm.Free.XT.i2c X.here hx rfl (hb hby hd) rfl q) kt
theorem own_irem (X : Stand p l e R s m args below meth c T locs cells slots) (hx : p.tables.exec = Jvm.exec) (hby : c.code = bc) {x y : Int32} (hd : decode bc pc = .ok (.irem, 1)) (hp : pc + 1 = pc') (hy : y ≠ 0)
    (kt : Ends p.tables e below Fz (T.setTop (mkF m pc' Ls (.int (x % y) :: st)))) : Ends p.tables e below Fz (T.setTop (mkF m pc Ls (.int y :: .int x :: st))) := by
  subst hp; exact Ends.of (fun _ q => iremM X hx rfl (hb hby hd) rfl hy q) kt
theorem own_dup (X : Stand p l e R s m args below meth c T locs cells slots) (hx : p.tables.exec = Jvm.exec) (hby : c.code = bc) {v : Value} (hd : decode bc pc = .ok (.dup, 1)) (hp : pc + 1 = pc') (hc : v.category = 1)
    (kt : Ends p.tables e below Fz (T.setTop (mkF m pc' Ls (v :: v :: st)))) : Ends p.tables e below Fz (T.setTop (mkF m pc Ls (v :: st))) := by
  subst hp; exact Ends.of (fun _ q => XS.dup X.here hx rfl (hb hby hd) rfl hc q) kt
theorem own_pop (X : Stand p l e R s m args below meth c T locs cells slots) (hx : p.tables.exec = Jvm.exec) (hby : c.code = bc) {v : Value} (hd : decode bc pc = .ok (.pop, 1)) (hp : pc + 1 = pc') (hc : v.category = 1)
    (kt : Ends p.tables e below Fz (T.setTop (mkF m pc' Ls st))) : Ends p.tables e below Fz (T.setTop (mkF m pc Ls (v :: st))) := by
  subst hp; exact Ends.of (fun _ q => Jvm.Free.XT.pop X.here hx rfl (hb hby hd) rfl hc q) kt
theorem own_iinc (X : Stand p l e R s m args below meth c T locs cells slots) (hx : p.tables.exec = Jvm.exec) (hby : c.code = bc) {k : Nat} {i : Int} {x : Int32} (hd : decode bc pc = .ok (.iinc k i, 3)) (hp : pc + 3 = pc') (v : Int32) (hv : Int32.ofInt i = v) (Ls' : Array Slot) (hl : Ls[k]? = some (.val (.int x))) (hl' : storeLocals Ls k (.int (x + v)) = some Ls')
    (kt : Ends p.tables e below Fz (T.setTop (mkF m pc' Ls' st))) : Ends p.tables e below Fz (T.setTop (mkF m pc Ls st)) := by
  subst hp; exact Ends.of (fun _ q => by subst hv; exact XS.iinc X.here hx rfl (hb hby hd) hl hl' q) kt
theorem own_goto (X : Stand p l e R s m args below meth c T locs cells slots) (hx : p.tables.exec = Jvm.exec) (hby : c.code = bc) {o : Int} (hd : decode bc pc = .ok (.goto o, 3)) (hp : (pc : Int) + o = (pc' : Int)) (kt : Ends p.tables e below Fz (T.setTop (mkF m pc' Ls st))) : Ends p.tables e below Fz (T.setTop (mkF m pc Ls st)) :=
  Ends.of (fun _ q => XS.goto X.here hx rfl (pc0 := pc) (pc' := pc') rfl (hb hby hd) (by rw [hp]; exact Int.natCast_nonneg _) (by rw [hp]; rfl) q) kt
theorem own_icmp_eq (X : Stand p l e R s m args below meth c T locs cells slots) (hx : p.tables.exec = Jvm.exec) (hby : c.code = bc) {x y : Int32} {o : Int} {pcY pcN : Nat} (hd : decode bc pc = .ok (.if_icmp .eq o, 3)) (hpY : (pc : Int) + o = (pcY : Int)) (hpN : pc + 3 = pcN) (kY : x = y → Ends p.tables e below Fz (T.setTop (mkF m pcY Ls st))) (kN : ¬ x = y → Ends p.tables e below Fz (T.setTop (mkF m pcN Ls st))) : Ends p.tables e below Fz (T.setTop (mkF m pc Ls (.int y :: .int x :: st))) := by
  subst hpN; by_cases h : x = y
  · exact Ends.of (fun _ q => XS.icmpYes X.here hx rfl (pc0 := pc) (pc' := pcY) rfl (hb hby hd) rfl (Jvm.Free.XT.ii_eq_t h) (by rw [hpY]; exact Int.natCast_nonneg _) (by rw [hpY]; rfl) q) (kY h)
  · exact Ends.of (fun _ q => XS.icmpNo X.here hx rfl (hb hby hd) rfl (Jvm.Free.XT.ii_eq_f h) q) (kN h)
theorem own_icmp_ne (X : Stand p l e R s m args below meth c T locs cells slots) (hx : p.tables.exec = Jvm.exec) (hby : c.code = bc) {x y : Int32} {o : Int} {pcY pcN : Nat} (hd : decode bc pc = .ok (.if_icmp .ne o, 3)) (hpY : (pc : Int) + o = (pcY : Int)) (hpN : pc + 3 = pcN) (kY : ¬ x = y → Ends p.tables e below Fz (T.setTop (mkF m pcY Ls st))) (kN : x = y → Ends p.tables e below Fz (T.setTop (mkF m pcN Ls st))) : Ends p.tables e below Fz (T.setTop (mkF m pc Ls (.int y :: .int x :: st))) := by
  subst hpN; by_cases h : x = y
  · exact Ends.of (fun _ q => XS.icmpNo X.here hx rfl (hb hby hd) rfl (Jvm.Free.XT.ii_ne_f h) q) (kN h)
  · exact Ends.of (fun _ q => XS.icmpYes X.here hx rfl (pc0 := pc) (pc' := pcY) rfl (hb hby hd) rfl (Jvm.Free.XT.ii_ne_t h) (by rw [hpY]; exact Int.natCast_nonneg _) (by rw [hpY]; rfl) q) (kY h)
theorem own_icmp_lt (X : Stand p l e R s m args below meth c T locs cells slots) (hx : p.tables.exec = Jvm.exec) (hby : c.code = bc) {x y : Int32} {o : Int} {pcY pcN : Nat} (hd : decode bc pc = .ok (.if_icmp .lt o, 3)) (hpY : (pc : Int) + o = (pcY : Int)) (hpN : pc + 3 = pcN) (kY : x.toInt < y.toInt → Ends p.tables e below Fz (T.setTop (mkF m pcY Ls st))) (kN : y.toInt ≤ x.toInt → Ends p.tables e below Fz (T.setTop (mkF m pcN Ls st))) : Ends p.tables e below Fz (T.setTop (mkF m pc Ls (.int y :: .int x :: st))) := by
  subst hpN; by_cases h : x < y
  · exact Ends.of (fun _ q => XS.icmpYes X.here hx rfl (pc0 := pc) (pc' := pcY) rfl (hb hby hd) rfl (Jvm.Free.XT.ii_lt_t h) (by rw [hpY]; exact Int.natCast_nonneg _) (by rw [hpY]; rfl) q) (kY (Int32.lt_iff_toInt_lt.mp h))
  · exact Ends.of (fun _ q => XS.icmpNo X.here hx rfl (hb hby hd) rfl (Jvm.Free.XT.ii_lt_f h) q) (kN (Int.not_lt.mp fun q => h (Int32.lt_iff_toInt_lt.mpr q)))
theorem own_icmp_ge (X : Stand p l e R s m args below meth c T locs cells slots) (hx : p.tables.exec = Jvm.exec) (hby : c.code = bc) {x y : Int32} {o : Int} {pcY pcN : Nat} (hd : decode bc pc = .ok (.if_icmp .ge o, 3)) (hpY : (pc : Int) + o = (pcY : Int)) (hpN : pc + 3 = pcN) (kY : y.toInt ≤ x.toInt → Ends p.tables e below Fz (T.setTop (mkF m pcY Ls st))) (kN : x.toInt < y.toInt → Ends p.tables e below Fz (T.setTop (mkF m pcN Ls st))) : Ends p.tables e below Fz (T.setTop (mkF m pc Ls (.int y :: .int x :: st))) := by
  subst hpN; by_cases h : x < y
  · exact Ends.of (fun _ q => XS.icmpNo X.here hx rfl (hb hby hd) rfl (Jvm.Free.XT.ii_ge_f h) q) (kN (Int32.lt_iff_toInt_lt.mp h))
  · exact Ends.of (fun _ q => XS.icmpYes X.here hx rfl (pc0 := pc) (pc' := pcY) rfl (hb hby hd) rfl (Jvm.Free.XT.ii_ge_t h) (by rw [hpY]; exact Int.natCast_nonneg _) (by rw [hpY]; rfl) q) (kY (Int.not_lt.mp fun q => h (Int32.lt_iff_toInt_lt.mpr q)))
theorem own_icmp_gt (X : Stand p l e R s m args below meth c T locs cells slots) (hx : p.tables.exec = Jvm.exec) (hby : c.code = bc) {x y : Int32} {o : Int} {pcY pcN : Nat} (hd : decode bc pc = .ok (.if_icmp .gt o, 3)) (hpY : (pc : Int) + o = (pcY : Int)) (hpN : pc + 3 = pcN) (kY : y.toInt < x.toInt → Ends p.tables e below Fz (T.setTop (mkF m pcY Ls st))) (kN : x.toInt ≤ y.toInt → Ends p.tables e below Fz (T.setTop (mkF m pcN Ls st))) : Ends p.tables e below Fz (T.setTop (mkF m pc Ls (.int y :: .int x :: st))) := by
  subst hpN; by_cases h : y < x
  · exact Ends.of (fun _ q => XS.icmpYes X.here hx rfl (pc0 := pc) (pc' := pcY) rfl (hb hby hd) rfl (Jvm.Free.XT.ii_gt_t h) (by rw [hpY]; exact Int.natCast_nonneg _) (by rw [hpY]; rfl) q) (kY (Int32.lt_iff_toInt_lt.mp h))
  · exact Ends.of (fun _ q => XS.icmpNo X.here hx rfl (hb hby hd) rfl (Jvm.Free.XT.ii_gt_f h) q) (kN (Int.not_lt.mp fun q => h (Int32.lt_iff_toInt_lt.mpr q)))
theorem own_icmp_le (X : Stand p l e R s m args below meth c T locs cells slots) (hx : p.tables.exec = Jvm.exec) (hby : c.code = bc) {x y : Int32} {o : Int} {pcY pcN : Nat} (hd : decode bc pc = .ok (.if_icmp .le o, 3)) (hpY : (pc : Int) + o = (pcY : Int)) (hpN : pc + 3 = pcN) (kY : x.toInt ≤ y.toInt → Ends p.tables e below Fz (T.setTop (mkF m pcY Ls st))) (kN : y.toInt < x.toInt → Ends p.tables e below Fz (T.setTop (mkF m pcN Ls st))) : Ends p.tables e below Fz (T.setTop (mkF m pc Ls (.int y :: .int x :: st))) := by
  subst hpN; by_cases h : y < x
  · exact Ends.of (fun _ q => XS.icmpNo X.here hx rfl (hb hby hd) rfl (Jvm.Free.XT.ii_le_f h) q) (kN (Int32.lt_iff_toInt_lt.mp h))
  · exact Ends.of (fun _ q => XS.icmpYes X.here hx rfl (pc0 := pc) (pc' := pcY) rfl (hb hby hd) rfl (Jvm.Free.XT.ii_le_t h) (by rw [hpY]; exact Int.natCast_nonneg _) (by rw [hpY]; rfl) q) (kY (Int.not_lt.mp fun q => h (Int32.lt_iff_toInt_lt.mpr q)))
theorem own_if_eq (X : Stand p l e R s m args below meth c T locs cells slots) (hx : p.tables.exec = Jvm.exec) (hby : c.code = bc) {x : Int32} {o : Int} {pcY pcN : Nat} (hd : decode bc pc = .ok (.ifCond .eq o, 3)) (hpY : (pc : Int) + o = (pcY : Int)) (hpN : pc + 3 = pcN) (kY : x = 0 → Ends p.tables e below Fz (T.setTop (mkF m pcY Ls st))) (kN : ¬ x = 0 → Ends p.tables e below Fz (T.setTop (mkF m pcN Ls st))) : Ends p.tables e below Fz (T.setTop (mkF m pc Ls (.int x :: st))) := by
  subst hpN; by_cases h : x = (0 : Int32)
  · exact Ends.of (fun _ q => XS.ifYes X.here hx rfl (pc0 := pc) (pc' := pcY) rfl (hb hby hd) rfl (Jvm.Free.XT.i0_eq_t h) (by rw [hpY]; exact Int.natCast_nonneg _) (by rw [hpY]; rfl) q) (kY h)
  · exact Ends.of (fun _ q => XS.ifNo X.here hx rfl (hb hby hd) rfl (Jvm.Free.XT.i0_eq_f h) q) (kN h)
theorem own_if_ne (X : Stand p l e R s m args below meth c T locs cells slots) (hx : p.tables.exec = Jvm.exec) (hby : c.code = bc) {x : Int32} {o : Int} {pcY pcN : Nat} (hd : decode bc pc = .ok (.ifCond .ne o, 3)) (hpY : (pc : Int) + o = (pcY : Int)) (hpN : pc + 3 = pcN) (kY : ¬ x = 0 → Ends p.tables e below Fz (T.setTop (mkF m pcY Ls st))) (kN : x = 0 → Ends p.tables e below Fz (T.setTop (mkF m pcN Ls st))) : Ends p.tables e below Fz (T.setTop (mkF m pc Ls (.int x :: st))) := by
  subst hpN; by_cases h : x = (0 : Int32)
  · exact Ends.of (fun _ q => XS.ifNo X.here hx rfl (hb hby hd) rfl (Jvm.Free.XT.i0_ne_f h) q) (kN h)
  · exact Ends.of (fun _ q => XS.ifYes X.here hx rfl (pc0 := pc) (pc' := pcY) rfl (hb hby hd) rfl (Jvm.Free.XT.i0_ne_t h) (by rw [hpY]; exact Int.natCast_nonneg _) (by rw [hpY]; rfl) q) (kY h)
theorem own_if_lt (X : Stand p l e R s m args below meth c T locs cells slots) (hx : p.tables.exec = Jvm.exec) (hby : c.code = bc) {x : Int32} {o : Int} {pcY pcN : Nat} (hd : decode bc pc = .ok (.ifCond .lt o, 3)) (hpY : (pc : Int) + o = (pcY : Int)) (hpN : pc + 3 = pcN) (kY : x.toInt < (0 : Int) → Ends p.tables e below Fz (T.setTop (mkF m pcY Ls st))) (kN : (0 : Int) ≤ x.toInt → Ends p.tables e below Fz (T.setTop (mkF m pcN Ls st))) : Ends p.tables e below Fz (T.setTop (mkF m pc Ls (.int x :: st))) := by
  subst hpN; by_cases h : x < (0 : Int32)
  · exact Ends.of (fun _ q => XS.ifYes X.here hx rfl (pc0 := pc) (pc' := pcY) rfl (hb hby hd) rfl (Jvm.Free.XT.i0_lt_t h) (by rw [hpY]; exact Int.natCast_nonneg _) (by rw [hpY]; rfl) q) (kY (Int32.lt_iff_toInt_lt.mp h))
  · exact Ends.of (fun _ q => XS.ifNo X.here hx rfl (hb hby hd) rfl (Jvm.Free.XT.i0_lt_f h) q) (kN (Int.not_lt.mp fun q => h (Int32.lt_iff_toInt_lt.mpr q)))
theorem own_if_ge (X : Stand p l e R s m args below meth c T locs cells slots) (hx : p.tables.exec = Jvm.exec) (hby : c.code = bc) {x : Int32} {o : Int} {pcY pcN : Nat} (hd : decode bc pc = .ok (.ifCond .ge o, 3)) (hpY : (pc : Int) + o = (pcY : Int)) (hpN : pc + 3 = pcN) (kY : (0 : Int) ≤ x.toInt → Ends p.tables e below Fz (T.setTop (mkF m pcY Ls st))) (kN : x.toInt < (0 : Int) → Ends p.tables e below Fz (T.setTop (mkF m pcN Ls st))) : Ends p.tables e below Fz (T.setTop (mkF m pc Ls (.int x :: st))) := by
  subst hpN; by_cases h : x < (0 : Int32)
  · exact Ends.of (fun _ q => XS.ifNo X.here hx rfl (hb hby hd) rfl (Jvm.Free.XT.i0_ge_f h) q) (kN (Int32.lt_iff_toInt_lt.mp h))
  · exact Ends.of (fun _ q => XS.ifYes X.here hx rfl (pc0 := pc) (pc' := pcY) rfl (hb hby hd) rfl (Jvm.Free.XT.i0_ge_t h) (by rw [hpY]; exact Int.natCast_nonneg _) (by rw [hpY]; rfl) q) (kY (Int.not_lt.mp fun q => h (Int32.lt_iff_toInt_lt.mpr q)))
theorem own_ifnullYes (X : Stand p l e R s m args below meth c T locs cells slots) (hx : p.tables.exec = Jvm.exec) (hby : c.code = bc) {o : Int} {pcY : Nat} (hd : decode bc pc = .ok (.ifnull o, 3)) (hpY : (pc : Int) + o = (pcY : Int)) (kt : Ends p.tables e below Fz (T.setTop (mkF m pcY Ls st))) : Ends p.tables e below Fz (T.setTop (mkF m pc Ls (.null :: st))) :=
  Ends.of (fun _ q => XS.ifnullYes X.here hx rfl (pc0 := pc) (pc' := pcY) rfl (hb hby hd) rfl (by rw [hpY]; exact Int.natCast_nonneg _) (by rw [hpY]; rfl) q) kt
theorem own_ifnullNo (X : Stand p l e R s m args below meth c T locs cells slots) (hx : p.tables.exec = Jvm.exec) (hby : c.code = bc) {b : Addr} {o : Int} (hd : decode bc pc = .ok (.ifnull o, 3)) (hp : pc + 3 = pc') (kt : Ends p.tables e below Fz (T.setTop (mkF m pc' Ls st))) : Ends p.tables e below Fz (T.setTop (mkF m pc Ls (.ref b :: st))) := by
  subst hp; exact Ends.of (fun _ q => XS.ifnullNo X.here hx rfl (hb hby hd) rfl q) kt
theorem own_ret (X : Stand p l e R s m args below meth c T locs cells slots) (hx : p.tables.exec = Jvm.exec) (hby : c.code = bc) {v : Value} {t : FieldType} {i : Instr} (hret : meth.sig.returnType = some t) (hk : meth.locks = false) (hd : decode bc pc = .ok (i, 1)) (v' : Value) (hn : narrow t v = v')
    (hi : (i = .ireturn ∧ (t = .int ∨ t = .boolean ∨ t = .byte ∨ t = .char ∨ t = .short) ∧ ∃ z, v = .int z) ∨ (i = .lreturn ∧ t = .long ∧ ∃ z, v = .long z) ∨ (i = .areturn ∧ t.isReference = true ∧ v.isRef = true))
    (hC : cells ≤ C) (hS : slots ≤ S) (q : Q (some v') T.heap locs) : Ends p.tables e below (OwnFin s Q C S) (T.setTop (mkF m pc Ls (v :: st))) := by
  obtain ⟨fs, hr, hrun, hended, hW, hsame⟩ := X.leave (v := some v') (fun h => by rw [hret] at h; cases h) hk
  refine ⟨_, _, ?_, hrun, hended, _, _, rfl, q, ⟨_, rfl⟩, hW, hsame.mono hC hS⟩
  have hm' : T.vm.method? m = some meth := X.method'
  show Steps p.tables e below (T.setTop { method := m, pc := pc, locals := Ls, stack := v :: st, locked := none }) _
  have hd' := hb hby hd
  rcases hi with ⟨rfl, ht, z, rfl⟩ | ⟨rfl, rfl, z, rfl⟩ | ⟨rfl, ht, hv⟩
  · rcases ht with rfl | rfl | rfl | rfl | rfl <;> (jvm_step X.here [X.here.top, hx, hd', hm', hret, hn]; first | (intro acts; rw [hr _ acts rfl rfl rfl]) | rw [hr _ _ rfl rfl rfl]) <;> exact Steps.refl _
  · have hn2 : Value.long z = v' := hn
    subst hn2
    jvm_step X.here [X.here.top, hx, hd', hm', hret, hn]
    first | (intro acts; rw [hr _ acts rfl rfl rfl]) | rw [hr _ _ rfl rfl rfl]
    exact Steps.refl _
  · have hn2 : v = v' := by rw [← hn]; rcases ref_cases hv with rfl | ⟨z, rfl⟩ <;> cases t <;> rfl
    subst hn2
    jvm_step X.here [X.here.top, hx, hd', hm', hret, hn, ht, hv]
    first | (intro acts; rw [hr _ acts rfl rfl rfl]) | rw [hr _ _ rfl rfl rfl]
    exact Steps.refl _
theorem own_retV (X : Stand p l e R s m args below meth c T locs cells slots) (hx : p.tables.exec = Jvm.exec) (hby : c.code = bc) (hret : meth.sig.returnType = none) (hk : meth.locks = false) (hd : decode bc pc = .ok (.return_, 1)) (hC : cells ≤ C) (hS : slots ≤ S) (q : Q none T.heap locs) : Ends p.tables e below (OwnFin s Q C S) (T.setTop (mkF m pc Ls [])) := by
  obtain ⟨fs, hr, hrun, hended, hW, hsame⟩ := X.leave (v := none) (fun _ => rfl) hk
  exact ⟨_, _, X.returnOut hx hret (hb hby hd) hr, hrun, hended, _, _, rfl, q, ⟨_, rfl⟩, hW, hsame.mono hC hS⟩
end Own
section OwnH
variable {p : Program} {l : Launch} {e : Env} {R : Room} {s : State} {m : MethodId} {args : Array Value} {below : List Frame} {meth : Method} {c : Code} {T : State} {locs : List Loc} {cells slots : Nat}
variable {Fz : Outcome → State → Prop} {bc : ByteArray} {pc pc' : Nat} {Ls Ls' : Array Slot} {st : List Value}
variable {Z : State} {a0 : Array Value} {h h0 : Heap} {n0 : Nat}
abbrev OwnMet (l : Launch) (Z : State) (y : MethodName) (bytes : ByteArray) (maxL : Nat) (rt : Option FieldType) (ws : List Jvm.Cond) (rm : Room) (as' : Array Value) (h0 : Heap) (Qc : Option Value → Heap → List Loc → Prop) : Prop :=
  MetFree l y (head1 (Jvm.Cond.code y bytes maxL rt :: ws) rm) (fun a U => a = as' ∧ Z.Warmed39 U.vm ∧ U.heap = h0) (fun _ _ _ _ _ => True) (fun _ U o U' => ∃ v L, o = .returned v ∧ Qc v U'.heap L ∧ FrameEnd U o U' L rm.cells rm.slots)
theorem own_body {y : MethodName} {bytes : ByteArray} {maxL : Nat} {rt : Option FieldType} {ws : List Jvm.Cond} {rm : Room} {as' : Array Value} {Qc : Option Value → Heap → List Loc → Prop} {Ls0 : Array Slot} (hpl : plainFor y = true) (hef : ∀ m : MethodId, entryFrame m as' maxL = mkF m 0 Ls0 [])
    (body : ∀ (p : Program) (e : Env) (s : State) (m : MethodId) (below : List Frame) (meth : Method) (c : Code) (s₁ : State), Stand p l e rm s m as' below meth c s₁ [] 0 0 → p.tables.exec = Jvm.exec → c.code = bytes → c.maxLocals = maxL → s.vm.findClass y.cls = some m.cls → meth.name = y.name → meth.sig.returnType = rt → meth.locks = false → Z.Warmed39 s.vm → s₁.heap = h0 → Ends p.tables e below (OwnFin s Qc rm.cells rm.slots) (s₁.setTop (mkF m 0 Ls0 []))) :
    OwnMet l Z y bytes maxL rt ws rm as' h0 Qc := by
  refine MetFree.of_bodySF hpl hisR ?_
  intro p e s m args below meth c s₁ Bd hml0 hP hK
  obtain ⟨rfl, hZ, hh⟩ := hP
  have e0 : s₁.heap = h0 := by rw [← hh, Bd.state]; rfl
  rw [hef]
  exact body p e s m below meth c s₁ (Stand.of_body Bd) Bd.exec Bd.bytes hml0 (findClass_of_methodNamed Bd.named) (name_of_methodNamed Bd.named Bd.method).1 Bd.returns Bd.notSynchronized hZ e0
theorem own_static (X : Stand p l e R s m args below meth c T locs cells slots) (hx : p.tables.exec = Jvm.exec) (hby : c.code = bc) (hZ : Z.Warmed39 s.vm) {own : String} {index : Nat} {y : MethodName} {bytes : ByteArray} {maxL : Nat} {rt r : Option FieldType} {ps : List FieldType} {rm : Room} {argsL rest : List Value} {Qc : Option Value → Heap → List Loc → Prop} {W : Nat}
    (hown : s.vm.findClass own = some m.cls) (w1 : (Jvm.Cond.methodLink own index y).before a0 Z = true) (w2 : (Jvm.Cond.static y).before a0 Z = true) (w3 : (Jvm.Cond.initialized y.cls).before a0 Z = true) (w4 : (Jvm.Cond.code y bytes maxL rt).before a0 Z = true) (hy : y.cls ≠ "java/lang/invoke/MethodHandle" ∧ y.cls ≠ "java/lang/invoke/VarHandle")
    (hM : OwnMet l Z y bytes maxL rt [] rm argsL.toArray h Qc) (eT : T.heap = h) (hml : Ls.size = c.maxLocals) (hlen : parseMethodDescriptor y.desc = some ⟨ps, r⟩) (hl : argsL.length = ps.length) (hf : rm.frames + 1 ≤ R.frames) (hW : (rest.map fun v => v.category).sum ≤ W) (hlo : W + (maxL + 11) + rm.locals ≤ R.locals) (hc : cells + rm.cells ≤ R.cells) (hs : slots + rm.slots ≤ R.slots)
    (hd : decode bc pc = .ok (.invokestatic index, 3)) (hp : pc + 3 = pc') (hst : st = argsL.reverse ++ rest)
    (kt : ∀ v T' L, Stand p l e R s m args below meth c T' (locs ++ L) (cells + rm.cells) (slots + rm.slots) → Qc v T'.heap L → Ends p.tables e below Fz (T'.setTop (mkF m pc' Ls (v.toList ++ rest)))) : Ends p.tables e below Fz (T.setTop (mkF m pc Ls st)) := by
  subst hp hst
  obtain ⟨v, vm₁, ⟨T', L', k', n'⟩, -, X', ⟨Lc, hQ, l', y', z'⟩, st⟩ := Jvm.LawKit.callS X hx (y := y) hown (mvT hZ w1) (mvT hZ w2) (mvT hZ w3) (mvT hZ w4) hy (backOf (W := W) hM hZ w4 w3 hf hlo) (g := mkF m pc Ls (argsL.reverse ++ rest)) rfl hml (argsL := argsL) (rest := rest) (lenOf hlen hl) rfl (by show 2 * 0 + _ ≤ _; omega) (hb hby hd) (fun _ _ => ⟨rfl, eT, hc, hs⟩)
  dsimp only [Pt.U, Pt.locs, Pt.cells, Pt.slots] at X' l' y' z' st hQ
  subst l' y' z'
  exact Ends.of st (kt v T' Lc X' hQ)
theorem own_special (X : Stand p l e R s m args below meth c T locs cells slots) (hx : p.tables.exec = Jvm.exec) (hby : c.code = bc) (hZ : Z.Warmed39 s.vm) {own : String} {index : Nat} {y : MethodName} {bytes : ByteArray} {maxL : Nat} {r : Option FieldType} {ps : List FieldType} {rm : Room} {a : Addr} {argsL rest : List Value} {Qc : Option Value → Heap → List Loc → Prop} {W : Nat}
    (hown : s.vm.findClass own = some m.cls) (hn : y.name = "<init>") (w1 : (Jvm.Cond.methodLink own index y).before a0 Z = true) (w2 : (Jvm.Cond.instanceMethod y).before a0 Z = true) (w3 : (Jvm.Cond.initialized y.cls).before a0 Z = true) (w4 : (Jvm.Cond.code y bytes maxL none).before a0 Z = true) (hy : y.cls ≠ "java/lang/invoke/MethodHandle" ∧ y.cls ≠ "java/lang/invoke/VarHandle")
    (hM : OwnMet l Z y bytes maxL none [] rm (Value.ref a :: argsL).toArray h Qc) (eT : T.heap = h) (hml : Ls.size = c.maxLocals) (hlen : parseMethodDescriptor y.desc = some ⟨ps, r⟩) (hl : argsL.length = ps.length) (hf : rm.frames + 1 ≤ R.frames) (hW : (rest.map fun v => v.category).sum ≤ W) (hlo : W + (maxL + 11) + rm.locals ≤ R.locals) (hc : cells + rm.cells ≤ R.cells) (hs : slots + rm.slots ≤ R.slots)
    (hd : decode bc pc = .ok (.invokespecial index, 3)) (hp : pc + 3 = pc') (hst : st = argsL.reverse ++ Value.ref a :: rest)
    (kt : ∀ v T' L, Stand p l e R s m args below meth c T' (locs ++ L) (cells + rm.cells) (slots + rm.slots) → Qc v T'.heap L → Ends p.tables e below Fz (T'.setTop (mkF m pc' Ls (v.toList ++ rest)))) : Ends p.tables e below Fz (T.setTop (mkF m pc Ls st)) := by
  subst hp hst
  obtain ⟨v, vm₁, ⟨T', L', k', n'⟩, -, X', ⟨Lc, hQ, l', y', z'⟩, st⟩ := X.specialBack hx (y := y) hn hown (mvT hZ w1) (mvT hZ w2) (mvT hZ w4) hy (backOf (W := W) hM hZ w4 w3 hf hlo) (g := mkF m pc Ls (argsL.reverse ++ Value.ref a :: rest)) rfl hml (Steps.refl _) (a := a) (argsL := argsL) (rest := rest) (lenOf hlen hl) rfl (by show 2 * 0 + _ ≤ _; omega) (hb hby hd) (fun _ _ => ⟨rfl, eT, hc, hs⟩)
  dsimp only [Pt.U, Pt.locs, Pt.cells, Pt.slots] at X' l' y' z' st hQ
  subst l' y' z'
  exact Ends.tr st (kt v T' Lc X' hQ)
theorem own_virtual (X : Stand p l e R s m args below meth c T locs cells slots) (hx : p.tables.exec = Jvm.exec) (hby : c.code = bc) (hZ : Z.Warmed39 s.vm) {own Cn : String} {index : Nat} {y : MethodName} {bytes : ByteArray} {maxL : Nat} {rt r : Option FieldType} {ps : List FieldType} {rm : Room} {a : Addr} {argsL rest : List Value} {Qc : Option Value → Heap → List Loc → Prop} {W : Nat}
    (hown : s.vm.findClass own = some m.cls) (w1 : (Jvm.Cond.methodLink own index y).before a0 Z = true) (wd : (Jvm.Cond.declares y).before a0 Z = true) (ws : (Jvm.Cond.selects Cn y y).before a0 Z = true) (w2 : (Jvm.Cond.instanceMethod y).before a0 Z = true) (w3 : (Jvm.Cond.initialized y.cls).before a0 Z = true) (w4 : (Jvm.Cond.code y bytes maxL rt).before a0 Z = true) (hy : y.cls ≠ "java/lang/invoke/MethodHandle" ∧ y.cls ≠ "java/lang/invoke/VarHandle")
    (hM : OwnMet l Z y bytes maxL rt [] rm (Value.ref a :: argsL).toArray h Qc) (E : Exa Z h a Cn) (eT : T.heap = h) (hml : Ls.size = c.maxLocals) (hlen : parseMethodDescriptor y.desc = some ⟨ps, r⟩) (hl : argsL.length = ps.length) (hf : rm.frames + 1 ≤ R.frames) (hW : (rest.map fun v => v.category).sum ≤ W) (hlo : W + (maxL + 11) + rm.locals ≤ R.locals) (hc : cells + rm.cells ≤ R.cells) (hs : slots + rm.slots ≤ R.slots)
    (hd : decode bc pc = .ok (.invokevirtual index, 3)) (hp : pc + 3 = pc') (hst : st = argsL.reverse ++ Value.ref a :: rest)
    (kt : ∀ v T' L, Stand p l e R s m args below meth c T' (locs ++ L) (cells + rm.cells) (slots + rm.slots) → Qc v T'.heap L → Ends p.tables e below Fz (T'.setTop (mkF m pc' Ls (v.toList ++ rest)))) : Ends p.tables e below Fz (T.setTop (mkF m pc Ls st)) := by
  subst hp hst
  obtain ⟨cq, kq, qa, qb, qc⟩ := isOf hZ eT E
  obtain ⟨v, vm₁, ⟨T', L', k', n'⟩, -, X', ⟨Lc, hQ, l', y', z'⟩, st⟩ := X.virtualBack hx (y := y) (z := y) hown (mvT hZ w1) (mvT hZ wd) (notFace_of_selects (args := #[]) (mvT hZ ws)) (mvT hZ ws) (mvT hZ w2) hy (backOf (W := W) hM hZ w4 w3 hf hlo) qa qc (g := mkF m pc Ls (argsL.reverse ++ Value.ref a :: rest)) rfl hml (Steps.refl _) (argsL := argsL) (rest := rest) (lenOf hlen hl) rfl (by show 2 * 0 + _ ≤ _; omega) (hb hby hd) (fun _ _ => ⟨rfl, eT, hc, hs⟩)
  dsimp only [Pt.U, Pt.locs, Pt.cells, Pt.slots] at X' l' y' z' st hQ
  subst l' y' z'
  exact Ends.tr st (kt v T' Lc X' hQ)
theorem own_initO (X : Stand p l e R s m args below meth c T locs cells slots) (hx : p.tables.exec = Jvm.exec) (hby : c.code = bc) (hZ : Z.Warmed39 s.vm) {own : String} {index : Nat} {a : Addr}
    (hown : s.vm.findClass own = some m.cls) (w1 : (Jvm.Cond.methodLink own index Lib.objectInit).before a0 Z = true) (w2 : (Jvm.Cond.instanceMethod Lib.objectInit).before a0 Z = true) (w3 : (Jvm.Cond.code Lib.objectInit ⟨#[0xb1]⟩ 1 none).before a0 Z = true) (eT : T.heap = h) (hml : Ls.size = c.maxLocals) (hf : 1 ≤ R.frames) {W : Nat} (hW : (st.map fun v => v.category).sum ≤ W) (hlo : W + 12 ≤ R.locals)
    (hd : decode bc pc = .ok (.invokespecial index, 3)) (hp : pc + 3 = pc')
    (kt : ∀ T', Stand p l e R s m args below meth c T' locs cells slots → T'.heap = h → Ends p.tables e below Fz (T'.setTop (mkF m pc' Ls st))) : Ends p.tables e below Fz (T.setTop (mkF m pc Ls (.ref a :: st))) := by
  subst hp
  obtain ⟨T', X', e', st⟩ := initO X hx hZ hown w1 w2 w3 eT (g := mkF m pc Ls (.ref a :: st)) rfl hml rfl (hb hby hd) hf (W := W) (by show 2 * 0 + _ ≤ _; omega) hlo
  exact Ends.of st (kt T' X' e')
theorem own_getfield (X : Stand p l e R s m args below meth c T locs cells slots) (hx : p.tables.exec = Jvm.exec) (hby : c.code = bc) (hZ : Z.Warmed39 s.vm) {own R0 O n d host : String} {index : Nat} {a : Addr} {v : Value}
    (hown : s.vm.findClass own = some m.cls) (w : (Jvm.Cond.fieldLink own index R0 n d).before a0 Z = true ∨ (Jvm.Cond.fieldLinkNest own index R0 n d host).before a0 Z = true) (via : Via Z R0 O n d) (eT : T.heap = h) (F : Fld Z h a O n d v)
    (hd : decode bc pc = .ok (.getfield index, 3)) (hp : pc + 3 = pc')
    (kt : ∀ T', Stand p l e R s m args below meth c T' locs cells slots → T'.heap = h → Ends p.tables e below Fz (T'.setTop (mkF m pc' Ls (v :: st)))) : Ends p.tables e below Fz (T.setTop (mkF m pc Ls (.ref a :: st))) := by
  subst hp
  obtain ⟨T', X', e', st⟩ := getF X hx hZ hown w via eT F (g := mkF m pc Ls (.ref a :: st)) rfl rfl (hb hby hd)
  exact Ends.of st (kt T' X' e')
theorem own_getstatic (X : Stand p l e R s m args below meth c T locs cells slots) (hx : p.tables.exec = Jvm.exec) (hby : c.code = bc) (hZ : Z.Warmed39 s.vm) {own R0 O n d host : String} {index : Nat} {v : Value}
    (hown : s.vm.findClass own = some m.cls) (w : (Jvm.Cond.fieldLink own index R0 n d).before a0 Z = true ∨ (Jvm.Cond.fieldLinkNest own index R0 n d host).before a0 Z = true) (via : Via Z R0 O n d) (eT : T.heap = h) (F : Sta Z h O n d v)
    (hd : decode bc pc = .ok (.getstatic index, 3)) (hp : pc + 3 = pc')
    (kt : ∀ T', Stand p l e R s m args below meth c T' locs cells slots → T'.heap = h → Ends p.tables e below Fz (T'.setTop (mkF m pc' Ls (v :: st)))) : Ends p.tables e below Fz (T.setTop (mkF m pc Ls st)) := by
  subst hp
  obtain ⟨T', X', e', st⟩ := getS2 X hx hZ hown w via eT F (g := mkF m pc Ls st) rfl (hb hby hd)
  exact Ends.of st (kt T' X' e')
theorem own_putfield (X : Stand p l e R s m args below meth c T locs cells slots) (hx : p.tables.exec = Jvm.exec) (hby : c.code = bc) (hZ : Z.Warmed39 s.vm) {own R0 O n d host Cn : String} {index kk : Nat} {ty : FieldType} {a : Addr} {v old : Value}
    (hown : s.vm.findClass own = some m.cls) (w : (Jvm.Cond.fieldLink own index R0 n d).before a0 Z = true ∨ (Jvm.Cond.fieldLinkNest own index R0 n d host).before a0 Z = true) (via : Via Z R0 O n d) (eT : T.heap = h) (F : Fld Z h a O n d old) (E : Exa Z h a Cn)
    (L : (Jvm.Cond.lays Cn O n d).before a0 Z = true ∨ ((Jvm.Cond.laysFinal Cn O n d).before a0 Z = true ∧ own = O ∧ meth.name = "<init>")) (wi : (Jvm.Cond.instantiable Cn kk).before a0 Z = true) (hty : parseFieldDescriptor d = some ty) (hn : narrow ty v = v) (hf : fits ty v = true) (N : Fr n0 locs) (ga : n0 ≤ a)
    (hd : decode bc pc = .ok (.putfield index, 3)) (hp : pc + 3 = pc')
    (kt : ∀ T' h' L', Stand p l e R s m args below meth c T' L' cells slots → T'.heap = h' → Wr h h' a (Jvm.RoadKit.slotOf Z O n d) v → Fr n0 L' → Ends p.tables e below Fz (T'.setTop (mkF m pc' Ls st))) : Ends p.tables e below Fz (T.setTop (mkF m pc Ls (v :: .ref a :: st))) := by
  subst hp
  obtain ⟨T', h', X', e', W', st⟩ := putF X hx hZ hown w via eT F E L wi hty hn hf (g := mkF m pc Ls (v :: .ref a :: st)) rfl rfl (hb hby hd)
  exact Ends.of st (kt T' h' _ X' e' W' (Fr.snoc X' N ga))
theorem own_new (X : Stand p l e R s m args below meth c T locs cells slots) (hx : p.tables.exec = Jvm.exec) (hby : c.code = bc) (hZ : Z.Warmed39 s.vm) {own Cn : String} {index n : Nat}
    (hown : s.vm.findClass own = some m.cls) (w : (Jvm.Cond.classLink own index Cn).before a0 Z = true) (wi : (Jvm.Cond.instantiable Cn n).before a0 Z = true) (wz : (Jvm.Cond.initialized Cn).before a0 Z = true) (eT : T.heap = h) (hc : cells + 1 ≤ R.cells) (hl : slots + n ≤ R.slots)
    (hd : decode bc pc = .ok (.new index, 3)) (hp : pc + 3 = pc')
    (kt : ∀ T' h' b, Stand p l e R s m args below meth c T' locs (cells + 1) (slots + n) → T'.heap = h' → b = h.size → Ext h h' → Exa Z h' b Cn → (∀ {O nm d : String} {ty : FieldType}, Laid Z a0 Cn O nm d → parseFieldDescriptor d = some ty → Fld Z h' b O nm d (defaultValue ty)) → Ends p.tables e below Fz (T'.setTop (mkF m pc' Ls (.ref b :: st)))) : Ends p.tables e below Fz (T.setTop (mkF m pc Ls st)) := by
  subst hp
  obtain ⟨T', h', X', e', E', A', D', -, st⟩ := newO X hx hZ hown w wi wz eT (g := mkF m pc Ls st) rfl (hb hby hd) hc hl
  exact Ends.of st (kt T' h' _ X' e' rfl E' A' D')
theorem own_newarray (X : Stand p l e R s m args below meth c T locs cells slots) (hx : p.tables.exec = Jvm.exec) (hby : c.code = bc) (hZ : Z.Warmed39 s.vm) {aty : ArrayType} {n : Int32}
    (w : (Jvm.Cond.arrayClass (newarray.typeOf aty)).before a0 Z = true) (eT : T.heap = h) (hn : ¬ n < 0) (cap : Nat) (hcap : n.toNatClampNeg ≤ cap) (hb8 : cap * 8 ≤ 536870912) (hc : cells + 1 ≤ R.cells) (hl : slots + cap ≤ R.slots)
    (ty : FieldType) (hty : newarray.typeOf aty = ty) (vs : List Value) (hvs : List.replicate n.toNatClampNeg (defaultValue ty) = vs)
    (hd : decode bc pc = .ok (.newarray aty, 2)) (hp : pc + 2 = pc')
    (kt : ∀ T' h' b k, Stand p l e R s m args below meth c T' locs (cells + 1) (slots + cap) → T'.heap = h' → b = h.size → Ext h h' → Arv Z h' b k ty n vs (defaultValue ty) → Ends p.tables e below Fz (T'.setTop (mkF m pc' Ls (.ref b :: st)))) : Ends p.tables e below Fz (T.setTop (mkF m pc Ls (.int n :: st))) := by
  subst hp hty hvs
  obtain ⟨T', h', k', X', e', E', A', st⟩ := newP X hx hZ w eT (g := mkF m pc Ls (.int n :: st)) rfl (hb hby hd) rfl hn hcap hb8 hc hl
  exact Ends.of st (kt T' h' _ k' X' e' rfl E' ((Arv.new A' hn).pad (pad_rep [] _ _)))
theorem own_arraylength (X : Stand p l e R s m args below meth c T locs cells slots) (hx : p.tables.exec = Jvm.exec) (hby : c.code = bc) (hZ : Z.Warmed39 s.vm) {ty : FieldType} {a : Addr} {k : ClassId} {n : Int32} {vs : List Value} {dv : Value}
    (eT : T.heap = h) (V : Arv Z h a k ty n vs dv) (hd : decode bc pc = .ok (.arraylength, 1)) (hp : pc + 1 = pc')
    (kt : Ends p.tables e below Fz (T.setTop (mkF m pc' Ls (.int n :: st)))) : Ends p.tables e below Fz (T.setTop (mkF m pc Ls (.ref a :: st))) := by
  subst hp
  obtain ⟨cl, A, -, Sz, Nn, -, -⟩ := V
  exact Ends.of (fun _ q => X.arraylength hx (by rw [eT]; exact A.1) (State.isArrayOf_alike hZ.alike A.2.1) (g := mkF m pc Ls (.ref a :: st)) rfl rfl (hb hby hd) _ (by rw [len_of Sz Nn]; exact q)) kt
theorem own_caload (X : Stand p l e R s m args below meth c T locs cells slots) (hx : p.tables.exec = Jvm.exec) (hby : c.code = bc) (hZ : Z.Warmed39 s.vm) {a : Addr} {k : ClassId} {n j : Int32} {vs : List Value} {dv : Value} (v : Int32)
    (eT : T.heap = h) (V : Arv Z h a k .char n vs dv) (hj : ¬ j < 0 ∧ j < n) (hv : vs.getD j.toNatClampNeg dv = .int v) (hd : decode bc pc = .ok (.caload, 1)) (hp : pc + 1 = pc')
    (kt : Ends p.tables e below Fz (T.setTop (mkF m pc' Ls (.int v :: st)))) : Ends p.tables e below Fz (T.setTop (mkF m pc Ls (.int j :: .ref a :: st))) := by
  subst hp
  obtain ⟨cl, A, -, Sz, Nn, H, -⟩ := V
  exact Ends.of (fun _ q => X.caload hx (j := j) (v := .int v) (by rw [eT]; exact A.1) (State.isArrayOf_alike hZ.alike A.2.1) A.2.2 (inb_of Sz hj) (H.at (inb_of Sz hj) hv) (g := mkF m pc Ls (.int j :: .ref a :: st)) rfl rfl (hb hby hd) _ q) kt
theorem own_baload (X : Stand p l e R s m args below meth c T locs cells slots) (hx : p.tables.exec = Jvm.exec) (hby : c.code = bc) (hZ : Z.Warmed39 s.vm) {a : Addr} {k : ClassId} {n j : Int32} {vs : List Value} {dv : Value} (v : Int32)
    (eT : T.heap = h) (V : Arv Z h a k .byte n vs dv) (hj : ¬ j < 0 ∧ j < n) (hv : vs.getD j.toNatClampNeg dv = .int v) (hd : decode bc pc = .ok (.baload, 1)) (hp : pc + 1 = pc')
    (kt : Ends p.tables e below Fz (T.setTop (mkF m pc' Ls (.int v :: st)))) : Ends p.tables e below Fz (T.setTop (mkF m pc Ls (.int j :: .ref a :: st))) := by
  subst hp
  obtain ⟨cl, A, -, Sz, Nn, H, -⟩ := V
  exact Ends.of (fun _ q => X.baloadBytes hx (j := j) (v := .int v) (by rw [eT]; exact A.1) (State.isArrayOf_alike hZ.alike A.2.1) A.2.2 (inb_of Sz hj) (H.at (inb_of Sz hj) hv) (g := mkF m pc Ls (.int j :: .ref a :: st)) rfl rfl (hb hby hd) _ q) kt
theorem own_castore (X : Stand p l e R s m args below meth c T locs cells slots) (hx : p.tables.exec = Jvm.exec) (hby : c.code = bc) (hZ : Z.Warmed39 s.vm) {a : Addr} {k : ClassId} {n j : Int32} {vs : List Value} {dv : Value} {x : Int32} (v' : Int32) (hv' : (nar .char x) = v')
    (eT : T.heap = h) (V : Arv Z h a k .char n vs dv) (hj : ¬ j < 0 ∧ j < n) (i : Nat) (hi : j.toNatClampNeg = i) (hil : i < vs.length) (vs' : List Value) (hvs : vs.set i (.int v') = vs') (hfit : fits .char (.int v') = true) (N : Fr n0 locs) (ga : n0 ≤ a) (hd : decode bc pc = .ok (.castore, 1)) (hp : pc + 1 = pc')
    (kt : ∀ T' h' L', Stand p l e R s m args below meth c T' L' cells slots → T'.heap = h' → Wr h h' a j.toNatClampNeg (.int v') → Arv Z h' a k .char n vs' dv → Fr n0 L' → Ends p.tables e below Fz (T'.setTop (mkF m pc' Ls st))) : Ends p.tables e below Fz (T.setTop (mkF m pc Ls (.int x :: .int j :: .ref a :: st))) := by
  subst hp hvs hv'
  obtain ⟨cl, A, q1, Sz, Nn, H, G⟩ := V
  obtain ⟨T', h', X', e', W', st⟩ := stC X hx hZ eT A (j := j) (inb_of Sz hj) (g := mkF m pc Ls (.int x :: .int j :: .ref a :: st)) rfl rfl (hb hby hd)
  exact Ends.of st (kt T' h' _ X' e' W' (Arv.set A q1 Sz Nn H G hfit W' i hi hil) (Fr.snoc X' N ga))
theorem own_bastore (X : Stand p l e R s m args below meth c T locs cells slots) (hx : p.tables.exec = Jvm.exec) (hby : c.code = bc) (hZ : Z.Warmed39 s.vm) {a : Addr} {k : ClassId} {n j : Int32} {vs : List Value} {dv : Value} {x : Int32} (v' : Int32) (hv' : (nar .byte x) = v')
    (eT : T.heap = h) (V : Arv Z h a k .byte n vs dv) (hj : ¬ j < 0 ∧ j < n) (i : Nat) (hi : j.toNatClampNeg = i) (hil : i < vs.length) (vs' : List Value) (hvs : vs.set i (.int v') = vs') (hfit : fits .byte (.int v') = true) (N : Fr n0 locs) (ga : n0 ≤ a) (hd : decode bc pc = .ok (.bastore, 1)) (hp : pc + 1 = pc')
    (kt : ∀ T' h' L', Stand p l e R s m args below meth c T' L' cells slots → T'.heap = h' → Wr h h' a j.toNatClampNeg (.int v') → Arv Z h' a k .byte n vs' dv → Fr n0 L' → Ends p.tables e below Fz (T'.setTop (mkF m pc' Ls st))) : Ends p.tables e below Fz (T.setTop (mkF m pc Ls (.int x :: .int j :: .ref a :: st))) := by
  subst hp hvs hv'
  obtain ⟨cl, A, q1, Sz, Nn, H, G⟩ := V
  obtain ⟨T', h', X', e', W', st⟩ := stB X hx hZ eT A (j := j) (inb_of Sz hj) (g := mkF m pc Ls (.int x :: .int j :: .ref a :: st)) rfl rfl (hb hby hd)
  exact Ends.of st (kt T' h' _ X' e' W' (Arv.set A q1 Sz Nn H G hfit W' i hi hil) (Fr.snoc X' N ga))
theorem own_ldcI (X : Stand p l e R s m args below meth c T locs cells slots) (hx : p.tables.exec = Jvm.exec) (hby : c.code = bc) (hZ : Z.Warmed39 s.vm) {own : String} {index : Nat} {v : Int32}
    (hown : s.vm.findClass own = some m.cls) (w : (Jvm.Cond.constant own index v).before a0 Z = true) (hd : decode bc pc = .ok (.ldc index, 2)) (hp : pc + 2 = pc')
    (kt : Ends p.tables e below Fz (T.setTop (mkF m pc' Ls (.int v :: st)))) : Ends p.tables e below Fz (T.setTop (mkF m pc Ls st)) := by
  subst hp; exact Ends.of (X.ldcInt hx hown (mvT hZ w) (g := mkF m pc Ls st) rfl (hb hby hd)) kt
theorem own_inb {j n : Int32} (h1 : 0 ≤ j.toInt) (h2 : j.toInt < n.toInt) : ¬ j < 0 ∧ j < n := ⟨fun q => by rw [Int32.lt_iff_toInt_lt] at q; have k0 : (0 : Int32).toInt = 0 := rfl; omega, Int32.lt_iff_toInt_lt.mpr h2⟩
theorem own_ge {b : Addr} (O : Old Z n0 h) (g : b = h.size) : n0 ≤ b := by rw [g]; exact O.1 ▸ O.2.1
theorem own_lt {x b : Addr} (hx : x < h.size) (g : b = h.size) : x ≠ b := by rw [g]; exact Nat.ne_of_lt hx
end OwnH
section OwnW
variable {p : Program} {l : Launch} {e : Env} {R : Room} {s : State} {m : MethodId} {args : Array Value} {below : List Frame} {meth : Method} {c : Code} {T : State} {locs : List Loc} {cells slots : Nat}
variable {Fz : Outcome → State → Prop} {bc : ByteArray} {pc pc' : Nat} {Ls Ls' : Array Slot} {st : List Value}
variable {Z : State} {a0 : Array Value} {h h0 : Heap} {n0 : Nat} {vm0 : Vm} {k0 : Nat} {Q : Option Value → Heap → List Loc → Prop} {C S : Nat}
def OwnFinW (s : State) (Q : Option Value → Heap → List Loc → Prop) (C S : Nat) (o : Outcome) (s₂ : State) : Prop := ∃ v L, o = .returned v ∧ Q v s₂.heap L ∧ ReturnedEndW s o s₂ L C S
abbrev OwnMetW (l : Launch) (Z : State) (y : MethodName) (bytes : ByteArray) (maxL : Nat) (rt : Option FieldType) (ws : List Jvm.Cond) (rm : Room) (as' : Array Value) (h0 : Heap) (Qc : Option Value → Heap → List Loc → Prop) : Prop :=
  MetFree l y (head1 (Jvm.Cond.code y bytes maxL rt :: ws) rm) (fun a U => a = as' ∧ Z.Warmed39 U.vm ∧ U.heap = h0) (fun _ _ _ _ _ => True) (fun _ U o U' => ∃ v L, o = .returned v ∧ Qc v U'.heap L ∧ ReturnedEndW U o U' L rm.cells rm.slots)
end OwnW
section OwnHH
variable {p : Program} {l : Launch} {e : Env} {R : Room} {s : State} {m : MethodId} {args : Array Value} {below : List Frame} {meth : Method} {c : Code} {T : State} {locs : List Loc} {cells slots : Nat}
variable {Fz : Outcome → State → Prop} {bc : ByteArray} {pc pc' : Nat} {Ls Ls' : Array Slot} {st : List Value}
variable {Z : State} {a0 : Array Value} {h h0 : Heap} {n0 : Nat} {vm0 : Vm} {EL : List (String × Nat)} {xs : List Addr} {k0 : Nat} {Q : Option Value → Heap → List Loc → Prop} {C S : Nat}
def OwnFinH (Z : State) (EL : List (String × Nat)) (s : State) (Q : Option Value → Heap → List Loc → Prop) (C S : Nat) (o : Outcome) (s₂ : State) : Prop := ∃ v L, o = .returned v ∧ Q v s₂.heap L ∧ CHr Z EL s.vm s.heap s₂.vm s₂.heap ∧ ReturnedEndW s o s₂ L C S
abbrev OwnMetH (l : Launch) (Z : State) (EL : List (String × Nat)) (xs : List Addr) (y : MethodName) (bytes : ByteArray) (maxL : Nat) (rt : Option FieldType) (ws : List Jvm.Cond) (rm : Room) (as' : Array Value) (h0 : Heap) (Qc : Option Value → Heap → List Loc → Prop) : Prop :=
  MetFree l y (head1 (Jvm.Cond.code y bytes maxL rt :: ws) rm) (fun a U => a = as' ∧ Z.Warmed39 U.vm ∧ U.heap = h0 ∧ CHv Z EL U.vm h0 ∧ ∀ x ∈ xs, Safe Z EL U.vm h0 x) (fun _ _ _ _ _ => True) (fun _ U o U' => ∃ v L, o = .returned v ∧ Qc v U'.heap L ∧ CHr Z EL U.vm U.heap U'.vm U'.heap ∧ ReturnedEndW U o U' L rm.cells rm.slots)
theorem own_bodyH {y : MethodName} {bytes : ByteArray} {maxL : Nat} {rt : Option FieldType} {ws : List Jvm.Cond} {rm : Room} {as' : Array Value} {Qc : Option Value → Heap → List Loc → Prop} {Ls0 : Array Slot} (hpl : plainFor y = true) (hef : ∀ m : MethodId, entryFrame m as' maxL = mkF m 0 Ls0 [])
    (body : ∀ (p : Program) (e : Env) (s : State) (m : MethodId) (below : List Frame) (meth : Method) (c : Code) (s₁ : State), Stand p l e rm (s.setVm s.vm) m as' below meth c s₁ [] 0 0 → p.tables.exec = Jvm.exec → c.code = bytes → c.maxLocals = maxL → (s.setVm s.vm).vm.findClass y.cls = some m.cls → meth.name = y.name → meth.sig.returnType = rt → meth.locks = false → Z.Warmed39 (s.setVm s.vm).vm → s₁.heap = h0 → s.heap = h0 → s.Since s.vm h0.size → CHv Z EL s.vm h0 → (∀ x ∈ xs, Safe Z EL s.vm h0 x) → Ends p.tables e below (OwnFinH Z EL s Qc rm.cells rm.slots) (s₁.setTop (mkF m 0 Ls0 []))) :
    OwnMetH l Z EL xs y bytes maxL rt ws rm as' h0 Qc := by
  refine MetFree.of_bodySF hpl hisR ?_
  intro p e s m args below meth c s₁ Bd hml0 hP hK
  obtain ⟨rfl, hZ, hh, hH, hxs⟩ := hP
  have e0 : s₁.heap = h0 := by rw [← hh, Bd.state]; rfl
  rw [hef]
  exact body p e s m below meth c s₁ (Stand.of_body Bd) Bd.exec Bd.bytes hml0 (findClass_of_methodNamed Bd.named) (name_of_methodNamed Bd.named Bd.method).1 Bd.returns Bd.notSynchronized hZ e0 hh ((State.WarmedH.refl s).since _) hH hxs
theorem own_retH (X : Stand p l e R (s.setVm vm0) m args below meth c T locs cells slots) (hx : p.tables.exec = Jvm.exec) (hby : c.code = bc) {v : Value} {t : FieldType} {i : Instr} (hret : meth.sig.returnType = some t) (hk : meth.locks = false) (hd : decode bc pc = .ok (i, 1)) (v' : Value) (hn : narrow t v = v')
    (hi : (i = .ireturn ∧ (t = .int ∨ t = .boolean ∨ t = .byte ∨ t = .char ∨ t = .short) ∧ ∃ z, v = .int z) ∨ (i = .lreturn ∧ t = .long ∧ ∃ z, v = .long z) ∨ (i = .areturn ∧ t.isReference = true ∧ v.isRef = true))
    (hZ : Z.Warmed39 (s.setVm vm0).vm) (hEL : EW Z a0 EL) (Rr : CHr Z EL s.vm s.heap vm0 T.heap) (hS : s.Since vm0 k0) (hk0 : k0 ≤ T.heap.size) (hC : cells ≤ C) (hSl : slots ≤ S) (q : Q (some v') T.heap locs) : Ends p.tables e below (OwnFinH Z EL s Q C S) (T.setTop (mkF m pc Ls (v :: st))) := by
  obtain ⟨fs, hr, hrun, hended, hE⟩ := X.leaveW hS hk0 (v := some v') (fun h => by rw [hret] at h; cases h) hk
  have hCf := Rr.trans (CHv.at X hZ hEL Rr.1)
  refine ⟨_, _, ?_, hrun, hended, _, _, rfl, q, hCf, hE.1, hE.2.1, hE.2.2.1, hE.2.2.2.mono hC hSl⟩
  have hm' : T.vm.method? m = some meth := X.method'
  show Steps p.tables e below (T.setTop { method := m, pc := pc, locals := Ls, stack := v :: st, locked := none }) _
  have hd' := hb hby hd
  rcases hi with ⟨rfl, ht, z, rfl⟩ | ⟨rfl, rfl, z, rfl⟩ | ⟨rfl, ht, hv⟩
  · rcases ht with rfl | rfl | rfl | rfl | rfl <;> (jvm_step X.here [X.here.top, hx, hd', hm', hret, hn]; first | (intro acts; rw [hr _ acts rfl rfl rfl]) | rw [hr _ _ rfl rfl rfl]) <;> exact Steps.refl _
  · have hn2 : Value.long z = v' := hn
    subst hn2
    jvm_step X.here [X.here.top, hx, hd', hm', hret, hn]
    first | (intro acts; rw [hr _ acts rfl rfl rfl]) | rw [hr _ _ rfl rfl rfl]
    exact Steps.refl _
  · have hn2 : v = v' := by rw [← hn]; rcases ref_cases hv with rfl | ⟨z, rfl⟩ <;> cases t <;> rfl
    subst hn2
    jvm_step X.here [X.here.top, hx, hd', hm', hret, hn, ht, hv]
    first | (intro acts; rw [hr _ acts rfl rfl rfl]) | rw [hr _ _ rfl rfl rfl]
    exact Steps.refl _
theorem own_ldcH (X : Stand p l e R (s.setVm vm0) m args below meth c T locs cells slots) (hx : p.tables.exec = Jvm.exec) (hby : c.code = bc) (hZ : Z.Warmed39 (s.setVm vm0).vm) {own text : String} {index : Nat} (hown : (s.setVm vm0).vm.findClass own = some m.cls) (w : (Jvm.Cond.stringLink own index text).before a0 Z = true) (wS : ∀ a ∈ Bundle.stringAtoms, a.before a0 Z = true)
    (eT : T.heap = h) (hS : s.Since vm0 k0) (hk : k0 ≤ h.size) (hEL : EW Z a0 EL) (hmem : (own, index) ∈ EL) (H : CHv Z EL vm0 h) (vs : List Value) (z : Int32) (ht : (∀ c ∈ text.toList, c.toNat < 256) ∧ text.toList.map (fun c => Value.int (Jvm.Lit.byteI c.toNat.toUInt16)) = vs) (hz : ¬ z < 0) (hzl : z.toNatClampNeg = vs.length)
    (n : Nat) (hn : 4 * text.toList.length ≤ n) (hbig : n ≤ 536870912) (hc : cells + 2 ≤ R.cells) (hl : slots + (n + 4) ≤ R.slots) (hd : decode bc pc = .ok (.ldc index, 2)) (hp : pc + 2 = pc')
    (kt : ∀ a T' h' k1 b k, Stand p l e R (s.setVm T'.vm) m args below meth c T' locs (cells + 2) (slots + (n + 4)) → T'.heap = h' → Ext h h' → s.Since T'.vm k1 → k1 ≤ h'.size → Z.Warmed39 (s.setVm T'.vm).vm → (s.setVm T'.vm).vm.findClass own = some m.cls →
      Exa Z h' a "java/lang/String" → Fld Z h' a "java/lang/String" "coder" "B" (.int 0) → Fld Z h' a "java/lang/String" "value" "[B" (.ref b) → Arv Z h' b k .byte z vs (.int 0) → CHr Z EL vm0 h T'.vm h' → (∀ x, Safe Z EL T'.vm h' x → x ≠ a ∧ x ≠ b) → Ends p.tables e below Fz (T'.setTop (mkF m pc' Ls (.ref a :: st)))) : Ends p.tables e below Fz (T.setTop (mkF m pc Ls st)) := by
  subst hp
  obtain ⟨a, T', h', k1, b, k, X', e', E', S', hk', hZ', ho', f1, f2, f3, f4, -, -, hC, -, hSf, st⟩ := ldcCH X hx hZ hown w wS eT hS hk hEL hmem H ht hz hzl (g := mkF m pc Ls st) rfl (hb hby hd) hn hbig hc hl
  exact Ends.of st (kt a T' h' k1 b k X' e' E' S' hk' hZ' ho' f1 f2 f3 f4 hC hSf)
theorem own_Re {vm vm1 : Vm} {h' : Heap} (A : CHr Z EL vm h0 vm1 h) (E : Ext h h') : CHr Z EL vm h0 vm1 h' := A.trans (CHr.ext E A.1)
theorem own_Rk {vm vm1 : Vm} {h' : Heap} (A : CHr Z EL vm h0 vm1 h) (K : Keep h h' xs) (hs : ∀ x ∈ xs, Safe Z EL vm1 h x) : CHr Z EL vm h0 vm1 h' := A.trans (CHr.keep K hs A.1)
theorem own_Rw {vm vm1 : Vm} {h' : Heap} {a : Addr} {i : Nat} {v : Value} (A : CHr Z EL vm h0 vm1 h) (W : Wr h h' a i v) (S : Safe Z EL vm1 h a) : CHr Z EL vm h0 vm1 h' := A.trans (CHr.wr W S A.1)
end OwnHH

theorem own_satoms {Z : State} {a0 : Array Value} (hw : ∀ d ∈ tables_1, d.before a0 Z = true) : ∀ d ∈ Bundle.stringAtoms, d.before a0 Z = true := fun d hd => hw d ((by decide +kernel : ∀ d ∈ Bundle.stringAtoms, d ∈ tables_1) d hd)
theorem own_narb (x : Int32) : nar .byte x.toInt8.toInt32 = x.toInt8.toInt32 := Value.int.inj (Jvm.Free.XT.narrow_b x)
theorem own_nti {a b : Int32} (h : ¬ a = b) : ¬ a.toInt = b.toInt := fun q => h (Int32.toInt_inj.mp q)
def OwnGl (Z : State) (ks : Int32) (fm : Value) : Prop := (¬ ks = 0) ∧ fm.isRef = true ∧ Sta Z Z.heap "java/lang/String" "COMPACT_STRINGS" "Z" (.int ks) ∧ Sta Z Z.heap "jdk/internal/util/Preconditions" "SIOOBE_FORMATTER" "Ljava/util/function/BiFunction;" fm ∧ Sta Z Z.heap "java/lang/StringUTF16" "$assertionsDisabled" "Z" (.int (1 : Int32)) ∧ Sta Z Z.heap "java/lang/StringUTF16" "HI_BYTE_SHIFT" "I" (.int (0 : Int32)) ∧ Sta Z Z.heap "java/lang/StringUTF16" "LO_BYTE_SHIFT" "I" (.int (8 : Int32))
def own_ok (y : Int32) : Int32 := if ((97 ≤ y.toInt ∧ y.toInt ≤ 122) ∨ (65 ≤ y.toInt ∧ y.toInt ≤ 90) ∨ (48 ≤ y.toInt ∧ y.toInt ≤ 57) ∨ y.toInt = 46 ∨ y.toInt = 95 ∨ y.toInt = 58 ∨ y.toInt = 45) then 1 else 0
theorem own_ok1 {y : Int32} (h : ((97 ≤ y.toInt ∧ y.toInt ≤ 122) ∨ (65 ≤ y.toInt ∧ y.toInt ≤ 90) ∨ (48 ≤ y.toInt ∧ y.toInt ≤ 57) ∨ y.toInt = 46 ∨ y.toInt = 95 ∨ y.toInt = 58 ∨ y.toInt = 45)) : own_ok y = 1 := by rw [own_ok, if_pos h]
theorem own_ok0 {y : Int32} (h : ¬ ((97 ≤ y.toInt ∧ y.toInt ≤ 122) ∨ (65 ≤ y.toInt ∧ y.toInt ≤ 90) ∨ (48 ≤ y.toInt ∧ y.toInt ≤ 57) ∨ y.toInt = 46 ∨ y.toInt = 95 ∨ y.toInt = 58 ∨ y.toInt = 45)) : own_ok y = 0 := by rw [own_ok, if_neg h]
theorem own_ok01 (y : Int32) : own_ok y = 0 ∨ own_ok y = 1 := by unfold own_ok; split <;> simp
def own_all : List Int32 → Int32
  | [] => 1
  | y :: ys => if own_ok y = 0 then 0 else own_all ys
theorem own_all0 {y : Int32} {ys : List Int32} (h : own_ok y = 0) : own_all (y :: ys) = 0 := by rw [own_all, if_pos h]
theorem own_all1 {y : Int32} {ys : List Int32} (h : ¬ own_ok y = 0) : own_all (y :: ys) = own_all ys := by rw [own_all, if_neg h]
theorem own_rc (x : Int32) : 0 ≤ (x.toUInt32.toUInt16.toUInt32.toInt32).toInt ∧ (x.toUInt32.toUInt16.toUInt32.toInt32).toInt < 65536 := by
  have e : (x.toUInt32.toUInt16.toUInt32.toInt32).toInt = ((x.toBitVec.setWidth 16).setWidth 32).toInt := rfl
  have k : ((x.toBitVec.setWidth 16).setWidth 32).toNat < 65536 := by simp only [BitVec.toNat_setWidth]; omega
  rw [e, BitVec.toInt_eq_toNat_cond, if_pos (by omega)]
  omega
theorem own_tn {a : Int32} (h : 0 ≤ a.toInt) : (a.toBitVec.toNat : Int) = a.toInt := by
  have e : a.toInt = a.toBitVec.toInt := rfl
  rw [e, BitVec.toInt_eq_toNat_cond] at h
  rw [e, BitVec.toInt_eq_toNat_cond]
  have := a.toBitVec.isLt
  split at h
  · rename_i q; rw [if_pos q]
  · omega
theorem own_nc (x : Int32) : nar .char (x.toUInt32.toUInt16.toUInt32.toInt32) = x.toUInt32.toUInt16.toUInt32.toInt32 := Value.int.inj (Jvm.Free.XT.narrow_c x)
theorem own_fc (x : Int32) : fits .char (.int (x.toUInt32.toUInt16.toUInt32.toInt32)) = true := fits_nar_char x
theorem own_toc {y : Int32} (h : 0 ≤ y.toInt ∧ y.toInt < 65536) : y.toUInt32.toUInt16.toUInt32.toInt32 = y := by
  have k : y.toBitVec.toNat < 65536 := by have := own_tn h.1; omega
  apply Int32.toBitVec_inj.mp
  apply BitVec.eq_of_toNat_eq
  show ((y.toBitVec.setWidth 16).setWidth 32).toNat = y.toBitVec.toNat
  simp only [BitVec.toNat_setWidth]
  omega
theorem own_lat {y : Int32} (h : 0 ≤ y.toInt ∧ y.toInt ≤ 255) : y.toInt8.toInt32 &&& (255 : Int32) = y := by
  apply Int32.toInt_inj.mp
  have k1 := c_mask y.toInt8.toInt32 (255 : Int32) 8 (by decide) (by decide)
  have k2 := c_i2b y
  omega
theorem own_or (a b : Int32) (h1 : 0 ≤ a.toInt ∧ a.toInt < 256) (h2 : 0 ≤ b.toInt ∧ b.toInt % 256 = 0) : (a ||| b).toInt = a.toInt + b.toInt := by
  have n1 := own_tn h1.1
  have n2 := own_tn h2.1
  have n5 := rng32 b
  have n3 : (a ||| b).toBitVec.toNat = a.toBitVec.toNat + b.toBitVec.toNat := by
    show (a.toBitVec ||| b.toBitVec).toNat = _
    rw [BitVec.toNat_or]
    obtain ⟨q, hq⟩ : ∃ q, b.toBitVec.toNat = 2 ^ 8 * q := ⟨b.toBitVec.toNat / 256, by omega⟩
    rw [hq, Nat.or_comm, ← Nat.two_pow_add_eq_or_of_lt (by omega)]; omega
  have n4 : (a ||| b).toInt = ((a ||| b).toBitVec.toNat : Int) := by
    have e : (a ||| b).toInt = (a ||| b).toBitVec.toInt := rfl
    rw [e, BitVec.toInt_eq_toNat_cond, if_pos (by rw [n3]; omega)]
  rw [n4, n3]; omega
theorem own_utf {y : Int32} (h : 0 ≤ y.toInt ∧ y.toInt < 65536) : ((((y >>> ((0 : Int32) &&& 31)).toInt8.toInt32 &&& (255 : Int32)) <<< ((0 : Int32) &&& 31)) ||| (((y >>> ((8 : Int32) &&& 31)).toInt8.toInt32 &&& (255 : Int32)) <<< ((8 : Int32) &&& 31))) = y := by
  have a1 := c_ishr y 0 0 rfl; have a2 := c_ishr y 8 8 rfl
  have b1 := c_i2b (y >>> ((0 : Int32) &&& 31)); have b2 := c_i2b (y >>> ((8 : Int32) &&& 31))
  have m1 := c_mask (y >>> ((0 : Int32) &&& 31)).toInt8.toInt32 (255 : Int32) 8 (by decide) (by decide)
  have m2 := c_mask (y >>> ((8 : Int32) &&& 31)).toInt8.toInt32 (255 : Int32) 8 (by decide) (by decide)
  have s1 := c_ishl ((y >>> ((0 : Int32) &&& 31)).toInt8.toInt32 &&& (255 : Int32)) 0 0 rfl
  have s2 := c_ishl ((y >>> ((8 : Int32) &&& 31)).toInt8.toInt32 &&& (255 : Int32)) 8 8 rfl
  have r1 := rng32 (((y >>> ((0 : Int32) &&& 31)).toInt8.toInt32 &&& (255 : Int32)) <<< ((0 : Int32) &&& 31)); have r2 := rng32 (((y >>> ((8 : Int32) &&& 31)).toInt8.toInt32 &&& (255 : Int32)) <<< ((8 : Int32) &&& 31))
  apply Int32.toInt_inj.mp
  rw [own_or _ _ (by omega) (by omega)]
  omega
theorem own_sel (x : Int32) : (x &&& (2147483647 : Int32)) % (9 : Int32) = 0 ∨ (x &&& (2147483647 : Int32)) % (9 : Int32) = 1 ∨ (x &&& (2147483647 : Int32)) % (9 : Int32) = 2 ∨ (x &&& (2147483647 : Int32)) % (9 : Int32) = 3 ∨ (x &&& (2147483647 : Int32)) % (9 : Int32) = 4 ∨ (x &&& (2147483647 : Int32)) % (9 : Int32) = 5 ∨ (x &&& (2147483647 : Int32)) % (9 : Int32) = 6 ∨ (x &&& (2147483647 : Int32)) % (9 : Int32) = 7 ∨ (x &&& (2147483647 : Int32)) % (9 : Int32) = 8 := by
  have k1 := c_mask x (2147483647 : Int32) 31 (by decide) (by decide)
  have k2 := (c_irem (x &&& (2147483647 : Int32)) (9 : Int32) 9 rfl).1 (by omega)
  generalize (x &&& (2147483647 : Int32)) % (9 : Int32) = t at *
  have h : t.toInt = 0 ∨ t.toInt = 1 ∨ t.toInt = 2 ∨ t.toInt = 3 ∨ t.toInt = 4 ∨ t.toInt = 5 ∨ t.toInt = 6 ∨ t.toInt = 7 ∨ t.toInt = 8 := by omega
  rcases h with h | h | h | h | h | h | h | h | h
  · exact Or.inl (Int32.toInt_inj.mp h)
  · exact Or.inr (Or.inl (Int32.toInt_inj.mp h))
  · exact Or.inr (Or.inr (Or.inl (Int32.toInt_inj.mp h)))
  · exact Or.inr (Or.inr (Or.inr (Or.inl (Int32.toInt_inj.mp h))))
  · exact Or.inr (Or.inr (Or.inr (Or.inr (Or.inl (Int32.toInt_inj.mp h)))))
  · exact Or.inr (Or.inr (Or.inr (Or.inr (Or.inr (Or.inl (Int32.toInt_inj.mp h))))))
  · exact Or.inr (Or.inr (Or.inr (Or.inr (Or.inr (Or.inr (Or.inl (Int32.toInt_inj.mp h)))))))
  · exact Or.inr (Or.inr (Or.inr (Or.inr (Or.inr (Or.inr (Or.inr (Or.inl (Int32.toInt_inj.mp h))))))))
  · exact Or.inr (Or.inr (Or.inr (Or.inr (Or.inr (Or.inr (Or.inr (Or.inr (Int32.toInt_inj.mp h))))))))
section OwnJ
variable {p : Program} {l : Launch} {e : Env} {R : Room} {s : State} {m : MethodId} {args : Array Value} {below : List Frame} {meth : Method} {c : Code} {T : State} {locs : List Loc} {cells slots : Nat}
theorem own_nil (X : Stand p l e R s m args below meth c T (locs ++ []) (cells + 0) (slots + 0)) : Stand p l e R s m args below meth c T locs cells slots := by simpa using X
end OwnJ
theorem own_narc {y : Int32} (h : 0 ≤ y.toInt ∧ y.toInt < 65536) : narrow .char (.int y) = .int y := by have q := Jvm.Free.XT.narrow_c y; rw [own_toc h] at q; exact q
def own_v128 : List Value := [.int (48 : Int32), .int (49 : Int32), .int (50 : Int32), .int (51 : Int32), .int (52 : Int32), .int (53 : Int32), .int (54 : Int32), .int (55 : Int32), .int (56 : Int32), .int (57 : Int32), .int (97 : Int32), .int (98 : Int32), .int (99 : Int32), .int (100 : Int32), .int (101 : Int32), .int (102 : Int32), .int (103 : Int32), .int (104 : Int32), .int (105 : Int32), .int (106 : Int32), .int (107 : Int32), .int (108 : Int32), .int (109 : Int32), .int (110 : Int32), .int (111 : Int32), .int (112 : Int32), .int (113 : Int32), .int (114 : Int32), .int (115 : Int32), .int (116 : Int32), .int (117 : Int32), .int (118 : Int32), .int (119 : Int32), .int (120 : Int32), .int (121 : Int32), .int (122 : Int32), .int (65 : Int32), .int (66 : Int32), .int (67 : Int32), .int (68 : Int32), .int (69 : Int32), .int (70 : Int32), .int (71 : Int32), .int (72 : Int32), .int (73 : Int32), .int (74 : Int32), .int (75 : Int32), .int (76 : Int32), .int (77 : Int32), .int (78 : Int32), .int (79 : Int32), .int (80 : Int32), .int (81 : Int32), .int (82 : Int32), .int (83 : Int32), .int (84 : Int32), .int (85 : Int32), .int (86 : Int32), .int (87 : Int32), .int (88 : Int32), .int (89 : Int32), .int (90 : Int32), .int (46 : Int32), .int (95 : Int32), .int (58 : Int32), .int (45 : Int32), .int (48 : Int32), .int (49 : Int32), .int (50 : Int32), .int (51 : Int32), .int (52 : Int32), .int (53 : Int32), .int (54 : Int32), .int (55 : Int32), .int (56 : Int32), .int (57 : Int32), .int (97 : Int32), .int (98 : Int32), .int (99 : Int32), .int (100 : Int32), .int (101 : Int32), .int (102 : Int32), .int (103 : Int32), .int (104 : Int32), .int (105 : Int32), .int (106 : Int32), .int (107 : Int32), .int (108 : Int32), .int (109 : Int32), .int (110 : Int32), .int (111 : Int32), .int (112 : Int32), .int (113 : Int32), .int (114 : Int32), .int (115 : Int32), .int (116 : Int32), .int (117 : Int32), .int (118 : Int32), .int (119 : Int32), .int (120 : Int32), .int (121 : Int32), .int (122 : Int32), .int (65 : Int32), .int (66 : Int32), .int (67 : Int32), .int (68 : Int32), .int (69 : Int32), .int (70 : Int32), .int (71 : Int32), .int (72 : Int32), .int (73 : Int32), .int (74 : Int32), .int (75 : Int32), .int (76 : Int32), .int (77 : Int32), .int (78 : Int32), .int (79 : Int32), .int (80 : Int32), .int (81 : Int32), .int (82 : Int32), .int (83 : Int32), .int (84 : Int32), .int (85 : Int32), .int (86 : Int32), .int (87 : Int32), .int (88 : Int32), .int (89 : Int32), .int (90 : Int32)]
def own_v129 : List Value := [.int (48 : Int32), .int (49 : Int32), .int (50 : Int32), .int (51 : Int32), .int (52 : Int32), .int (53 : Int32), .int (54 : Int32), .int (55 : Int32), .int (56 : Int32), .int (57 : Int32), .int (97 : Int32), .int (98 : Int32), .int (99 : Int32), .int (100 : Int32), .int (101 : Int32), .int (102 : Int32), .int (103 : Int32), .int (104 : Int32), .int (105 : Int32), .int (106 : Int32), .int (107 : Int32), .int (108 : Int32), .int (109 : Int32), .int (110 : Int32), .int (111 : Int32), .int (112 : Int32), .int (113 : Int32), .int (114 : Int32), .int (115 : Int32), .int (116 : Int32), .int (117 : Int32), .int (118 : Int32), .int (119 : Int32), .int (120 : Int32), .int (121 : Int32), .int (122 : Int32), .int (65 : Int32), .int (66 : Int32), .int (67 : Int32), .int (68 : Int32), .int (69 : Int32), .int (70 : Int32), .int (71 : Int32), .int (72 : Int32), .int (73 : Int32), .int (74 : Int32), .int (75 : Int32), .int (76 : Int32), .int (77 : Int32), .int (78 : Int32), .int (79 : Int32), .int (80 : Int32), .int (81 : Int32), .int (82 : Int32), .int (83 : Int32), .int (84 : Int32), .int (85 : Int32), .int (86 : Int32), .int (87 : Int32), .int (88 : Int32), .int (89 : Int32), .int (90 : Int32), .int (46 : Int32), .int (95 : Int32), .int (58 : Int32), .int (45 : Int32), .int (48 : Int32), .int (49 : Int32), .int (50 : Int32), .int (51 : Int32), .int (52 : Int32), .int (53 : Int32), .int (54 : Int32), .int (55 : Int32), .int (56 : Int32), .int (57 : Int32), .int (97 : Int32), .int (98 : Int32), .int (99 : Int32), .int (100 : Int32), .int (101 : Int32), .int (102 : Int32), .int (103 : Int32), .int (104 : Int32), .int (105 : Int32), .int (106 : Int32), .int (107 : Int32), .int (108 : Int32), .int (109 : Int32), .int (110 : Int32), .int (111 : Int32), .int (112 : Int32), .int (113 : Int32), .int (114 : Int32), .int (115 : Int32), .int (116 : Int32), .int (117 : Int32), .int (118 : Int32), .int (119 : Int32), .int (120 : Int32), .int (121 : Int32), .int (122 : Int32), .int (65 : Int32), .int (66 : Int32), .int (67 : Int32), .int (68 : Int32), .int (69 : Int32), .int (70 : Int32), .int (71 : Int32), .int (72 : Int32), .int (73 : Int32), .int (74 : Int32), .int (75 : Int32), .int (76 : Int32), .int (77 : Int32), .int (78 : Int32), .int (79 : Int32), .int (80 : Int32), .int (81 : Int32), .int (82 : Int32), .int (83 : Int32), .int (84 : Int32), .int (85 : Int32), .int (86 : Int32), .int (87 : Int32), .int (88 : Int32), .int (89 : Int32), .int (90 : Int32), .int (97 : Int32)]
def own_z (k : Nat) : Int32 := match own_v128.getD k (.int 0) with
  | .int z => z
  | _ => 0
theorem own_z1 : ∀ k < 128, own_v128.getD k (.int 0) = .int (own_z k) ∧ own_ok (own_z k &&& (255 : Int32)) = 1 := by decide +kernel
theorem own_zn {j : Int32} (h1 : 0 ≤ j.toInt) (h2 : j.toInt < 128) : own_v128.getD j.toNatClampNeg (.int 0) = .int (own_z j.toNatClampNeg) ∧ own_ok (own_z j.toNatClampNeg &&& (255 : Int32)) = 1 := own_z1 _ (by have q : (j.toNatClampNeg : Int) = j.toInt := Int.toNat_of_nonneg h1; omega)
theorem own_safe {Z : State} {EL : List (String × Nat)} {vm : Vm} {h : Heap} {x : Addr} {k : ClassId} {n : Int32} {vs : List Value} {d : Value} (hZ : Z.Warmed39 vm) (V : Arv Z h x k .char n vs d) : Safe Z EL vm h x := by
  obtain ⟨cl, A, -⟩ := V
  exact Safe.arr hZ.alike A (by decide)

theorem tw_0 : (Jvm.Cond.constant "com/example/uni_errors/unierrors/CorrelationHeadersIsValidIdPinLaw" (7 : Nat) (2147483647 : Int32)) ∈ tables_1 := List.mem_of_getElem? (i := 0) rfl
theorem tw_1 : (Jvm.Cond.arrayClass Jvm.ClassFile.FieldType.char) ∈ tables_1 := List.mem_of_getElem? (i := 1) rfl
theorem tw_2 : (Jvm.Cond.stringLink "com/example/uni_errors/unierrors/CorrelationHeadersIsValidIdPinLaw" (8 : Nat) "") ∈ tables_1 := List.mem_of_getElem? (i := 2) rfl
theorem tw_3 : (Jvm.Cond.initialized "java/lang/String") ∈ tables_1 := List.mem_of_getElem? (i := 3) rfl
theorem tw_4 : (Jvm.Cond.instantiable "java/lang/String" (4 : Nat)) ∈ tables_1 := List.mem_of_getElem? (i := 4) rfl
theorem tw_5 : (Jvm.Cond.arrayClass Jvm.ClassFile.FieldType.byte) ∈ tables_1 := List.mem_of_getElem? (i := 5) rfl
theorem tw_6 : (Jvm.Cond.laysFinal "java/lang/String" "java/lang/String" "value" "[B") ∈ tables_1 := List.mem_of_getElem? (i := 6) rfl
theorem tw_7 : (Jvm.Cond.laysFinal "java/lang/String" "java/lang/String" "coder" "B") ∈ tables_1 := List.mem_of_getElem? (i := 7) rfl
theorem tw_10 : (Jvm.Cond.methodLink "com/example/uni_errors/unierrors/CorrelationHeadersIsValidIdPinLaw" (29 : Nat) ({ cls := "com/example/uni_errors/unierrors/CorrelationHeaders", name := "isValidId", desc := "(Ljava/lang/String;)Z" } : Jvm.MethodName)) ∈ tables_1 := List.mem_of_getElem? (i := 10) rfl
theorem tw_11 : (Jvm.Cond.static ({ cls := "com/example/uni_errors/unierrors/CorrelationHeaders", name := "isValidId", desc := "(Ljava/lang/String;)Z" } : Jvm.MethodName)) ∈ tables_1 := List.mem_of_getElem? (i := 11) rfl
theorem tw_12 : (Jvm.Cond.initialized "com/example/uni_errors/unierrors/CorrelationHeaders") ∈ tables_1 := List.mem_of_getElem? (i := 12) rfl
theorem tw_13 : (Jvm.Cond.code ({ cls := "com/example/uni_errors/unierrors/CorrelationHeaders", name := "isValidId", desc := "(Ljava/lang/String;)Z" } : Jvm.MethodName) prog_5_method_6_code (2 : Nat) (Option.some Jvm.ClassFile.FieldType.boolean)) ∈ tables_1 := List.mem_of_getElem? (i := 13) rfl
theorem tw_14 : (Jvm.Cond.methodLink "com/example/uni_errors/unierrors/CorrelationHeaders" (33 : Nat) ({ cls := "java/lang/String", name := "isEmpty", desc := "()Z" } : Jvm.MethodName)) ∈ tables_1 := List.mem_of_getElem? (i := 14) rfl
theorem tw_15 : (Jvm.Cond.declares ({ cls := "java/lang/String", name := "isEmpty", desc := "()Z" } : Jvm.MethodName)) ∈ tables_1 := List.mem_of_getElem? (i := 15) rfl
theorem tw_16 : (Jvm.Cond.instanceMethod ({ cls := "java/lang/String", name := "isEmpty", desc := "()Z" } : Jvm.MethodName)) ∈ tables_1 := List.mem_of_getElem? (i := 16) rfl
theorem tw_17 : (Jvm.Cond.selects "java/lang/String" ({ cls := "java/lang/String", name := "isEmpty", desc := "()Z" } : Jvm.MethodName) ({ cls := "java/lang/String", name := "isEmpty", desc := "()Z" } : Jvm.MethodName)) ∈ tables_1 := List.mem_of_getElem? (i := 17) rfl
theorem tw_18 : (Jvm.Cond.code ({ cls := "java/lang/String", name := "isEmpty", desc := "()Z" } : Jvm.MethodName) jdk_42_method_55_code (1 : Nat) (Option.some Jvm.ClassFile.FieldType.boolean)) ∈ tables_1 := List.mem_of_getElem? (i := 18) rfl
theorem tw_19 : (Jvm.Cond.fieldLink "java/lang/String" (9 : Nat) "java/lang/String" "value" "[B") ∈ tables_1 := List.mem_of_getElem? (i := 19) rfl
theorem tw_20 : (Jvm.Cond.classLink "com/example/uni_errors/unierrors/CorrelationHeadersIsValidIdPinLaw" (10 : Nat) "java/lang/String") ∈ tables_1 := List.mem_of_getElem? (i := 20) rfl
theorem tw_21 : (Jvm.Cond.methodLink "com/example/uni_errors/unierrors/CorrelationHeadersIsValidIdPinLaw" (12 : Nat) ({ cls := "java/lang/String", name := "<init>", desc := "([C)V" } : Jvm.MethodName)) ∈ tables_1 := List.mem_of_getElem? (i := 21) rfl
theorem tw_22 : (Jvm.Cond.instanceMethod ({ cls := "java/lang/String", name := "<init>", desc := "([C)V" } : Jvm.MethodName)) ∈ tables_1 := List.mem_of_getElem? (i := 22) rfl
theorem tw_23 : (Jvm.Cond.code ({ cls := "java/lang/String", name := "<init>", desc := "([C)V" } : Jvm.MethodName) jdk_42_method_3_code (2 : Nat) (Option.none : Option Jvm.ClassFile.FieldType)) ∈ tables_1 := List.mem_of_getElem? (i := 23) rfl
theorem tw_24 : (Jvm.Cond.methodLink "java/lang/String" (27 : Nat) ({ cls := "java/lang/String", name := "<init>", desc := "([CIILjava/lang/Void;)V" } : Jvm.MethodName)) ∈ tables_1 := List.mem_of_getElem? (i := 24) rfl
theorem tw_25 : (Jvm.Cond.instanceMethod ({ cls := "java/lang/String", name := "<init>", desc := "([CIILjava/lang/Void;)V" } : Jvm.MethodName)) ∈ tables_1 := List.mem_of_getElem? (i := 25) rfl
theorem tw_27 : (Jvm.Cond.code ({ cls := "java/lang/String", name := "<init>", desc := "([CIILjava/lang/Void;)V" } : Jvm.MethodName) jdk_42_method_149_code (6 : Nat) (Option.none : Option Jvm.ClassFile.FieldType)) ∈ tables_1 := List.mem_of_getElem? (i := 27) rfl
theorem tw_28 : (Jvm.Cond.methodLink "java/lang/String" (1 : Nat) ({ cls := "java/lang/Object", name := "<init>", desc := "()V" } : Jvm.MethodName)) ∈ tables_1 := List.mem_of_getElem? (i := 28) rfl
theorem tw_29 : (Jvm.Cond.instanceMethod ({ cls := "java/lang/Object", name := "<init>", desc := "()V" } : Jvm.MethodName)) ∈ tables_1 := List.mem_of_getElem? (i := 29) rfl
theorem tw_30 : (Jvm.Cond.code ({ cls := "java/lang/Object", name := "<init>", desc := "()V" } : Jvm.MethodName) object_method_1_code (1 : Nat) (Option.none : Option Jvm.ClassFile.FieldType)) ∈ tables_1 := List.mem_of_getElem? (i := 30) rfl
theorem tw_31 : (Jvm.Cond.fieldLink "java/lang/String" (38 : Nat) "java/lang/String" "COMPACT_STRINGS" "Z") ∈ tables_1 := List.mem_of_getElem? (i := 31) rfl
theorem tw_32 : (Jvm.Cond.methodLink "java/lang/String" (177 : Nat) ({ cls := "java/lang/StringUTF16", name := "compress", desc := "([CII)[B" } : Jvm.MethodName)) ∈ tables_1 := List.mem_of_getElem? (i := 32) rfl
theorem tw_33 : (Jvm.Cond.static ({ cls := "java/lang/StringUTF16", name := "compress", desc := "([CII)[B" } : Jvm.MethodName)) ∈ tables_1 := List.mem_of_getElem? (i := 33) rfl
theorem tw_34 : (Jvm.Cond.initialized "java/lang/StringUTF16") ∈ tables_1 := List.mem_of_getElem? (i := 34) rfl
theorem tw_35 : (Jvm.Cond.code ({ cls := "java/lang/StringUTF16", name := "compress", desc := "([CII)[B" } : Jvm.MethodName) jdk_52_method_16_code (6 : Nat) (Option.some (Jvm.ClassFile.FieldType.array Jvm.ClassFile.FieldType.byte))) ∈ tables_1 := List.mem_of_getElem? (i := 35) rfl
theorem tw_36 : (Jvm.Cond.methodLink "java/lang/StringUTF16" (115 : Nat) ({ cls := "java/lang/StringUTF16", name := "compress", desc := "([CI[BII)I" } : Jvm.MethodName)) ∈ tables_1 := List.mem_of_getElem? (i := 36) rfl
theorem tw_37 : (Jvm.Cond.static ({ cls := "java/lang/StringUTF16", name := "compress", desc := "([CI[BII)I" } : Jvm.MethodName)) ∈ tables_1 := List.mem_of_getElem? (i := 37) rfl
theorem tw_38 : (Jvm.Cond.code ({ cls := "java/lang/StringUTF16", name := "compress", desc := "([CI[BII)I" } : Jvm.MethodName) jdk_52_method_21_code (7 : Nat) (Option.some Jvm.ClassFile.FieldType.int)) ∈ tables_1 := List.mem_of_getElem? (i := 38) rfl
theorem tw_39 : (Jvm.Cond.methodLink "java/lang/String" (47 : Nat) ({ cls := "java/lang/StringUTF16", name := "coderFromArrayLen", desc := "([BI)B" } : Jvm.MethodName)) ∈ tables_1 := List.mem_of_getElem? (i := 39) rfl
theorem tw_40 : (Jvm.Cond.static ({ cls := "java/lang/StringUTF16", name := "coderFromArrayLen", desc := "([BI)B" } : Jvm.MethodName)) ∈ tables_1 := List.mem_of_getElem? (i := 40) rfl
theorem tw_41 : (Jvm.Cond.code ({ cls := "java/lang/StringUTF16", name := "coderFromArrayLen", desc := "([BI)B" } : Jvm.MethodName) jdk_52_method_15_code (2 : Nat) (Option.some Jvm.ClassFile.FieldType.byte)) ∈ tables_1 := List.mem_of_getElem? (i := 41) rfl
theorem tw_42 : (Jvm.Cond.fieldLink "java/lang/String" (15 : Nat) "java/lang/String" "coder" "B") ∈ tables_1 := List.mem_of_getElem? (i := 42) rfl
theorem tw_43 : (Jvm.Cond.methodLink "com/example/uni_errors/unierrors/CorrelationHeadersIsValidIdPinLaw" (15 : Nat) ({ cls := "com/example/uni_errors/unierrors/CorrelationHeadersIsValidIdPinLaw", name := "ok", desc := "(C)Z" } : Jvm.MethodName)) ∈ tables_1 := List.mem_of_getElem? (i := 43) rfl
theorem tw_44 : (Jvm.Cond.static ({ cls := "com/example/uni_errors/unierrors/CorrelationHeadersIsValidIdPinLaw", name := "ok", desc := "(C)Z" } : Jvm.MethodName)) ∈ tables_1 := List.mem_of_getElem? (i := 44) rfl
theorem tw_45 : (Jvm.Cond.initialized "com/example/uni_errors/unierrors/CorrelationHeadersIsValidIdPinLaw") ∈ tables_1 := List.mem_of_getElem? (i := 45) rfl
theorem tw_46 : (Jvm.Cond.code ({ cls := "com/example/uni_errors/unierrors/CorrelationHeadersIsValidIdPinLaw", name := "ok", desc := "(C)Z" } : Jvm.MethodName) method_2_code (1 : Nat) (Option.some Jvm.ClassFile.FieldType.boolean)) ∈ tables_1 := List.mem_of_getElem? (i := 46) rfl
theorem tw_47 : (Jvm.Cond.methodLink "com/example/uni_errors/unierrors/CorrelationHeaders" (132 : Nat) ({ cls := "java/lang/String", name := "length", desc := "()I" } : Jvm.MethodName)) ∈ tables_1 := List.mem_of_getElem? (i := 47) rfl
theorem tw_48 : (Jvm.Cond.declares ({ cls := "java/lang/String", name := "length", desc := "()I" } : Jvm.MethodName)) ∈ tables_1 := List.mem_of_getElem? (i := 48) rfl
theorem tw_49 : (Jvm.Cond.instanceMethod ({ cls := "java/lang/String", name := "length", desc := "()I" } : Jvm.MethodName)) ∈ tables_1 := List.mem_of_getElem? (i := 49) rfl
theorem tw_50 : (Jvm.Cond.selects "java/lang/String" ({ cls := "java/lang/String", name := "length", desc := "()I" } : Jvm.MethodName) ({ cls := "java/lang/String", name := "length", desc := "()I" } : Jvm.MethodName)) ∈ tables_1 := List.mem_of_getElem? (i := 50) rfl
theorem tw_51 : (Jvm.Cond.code ({ cls := "java/lang/String", name := "length", desc := "()I" } : Jvm.MethodName) jdk_42_method_54_code (1 : Nat) (Option.some Jvm.ClassFile.FieldType.int)) ∈ tables_1 := List.mem_of_getElem? (i := 51) rfl
theorem tw_52 : (Jvm.Cond.methodLink "java/lang/String" (335 : Nat) ({ cls := "java/lang/String", name := "coder", desc := "()B" } : Jvm.MethodName)) ∈ tables_1 := List.mem_of_getElem? (i := 52) rfl
theorem tw_53 : (Jvm.Cond.declares ({ cls := "java/lang/String", name := "coder", desc := "()B" } : Jvm.MethodName)) ∈ tables_1 := List.mem_of_getElem? (i := 53) rfl
theorem tw_54 : (Jvm.Cond.instanceMethod ({ cls := "java/lang/String", name := "coder", desc := "()B" } : Jvm.MethodName)) ∈ tables_1 := List.mem_of_getElem? (i := 54) rfl
theorem tw_55 : (Jvm.Cond.selects "java/lang/String" ({ cls := "java/lang/String", name := "coder", desc := "()B" } : Jvm.MethodName) ({ cls := "java/lang/String", name := "coder", desc := "()B" } : Jvm.MethodName)) ∈ tables_1 := List.mem_of_getElem? (i := 55) rfl
theorem tw_56 : (Jvm.Cond.code ({ cls := "java/lang/String", name := "coder", desc := "()B" } : Jvm.MethodName) jdk_42_method_152_code (1 : Nat) (Option.some Jvm.ClassFile.FieldType.byte)) ∈ tables_1 := List.mem_of_getElem? (i := 56) rfl
theorem tw_57 : (Jvm.Cond.methodLink "com/example/uni_errors/unierrors/CorrelationHeaders" (136 : Nat) ({ cls := "java/lang/String", name := "charAt", desc := "(I)C" } : Jvm.MethodName)) ∈ tables_1 := List.mem_of_getElem? (i := 57) rfl
theorem tw_58 : (Jvm.Cond.declares ({ cls := "java/lang/String", name := "charAt", desc := "(I)C" } : Jvm.MethodName)) ∈ tables_1 := List.mem_of_getElem? (i := 58) rfl
theorem tw_59 : (Jvm.Cond.instanceMethod ({ cls := "java/lang/String", name := "charAt", desc := "(I)C" } : Jvm.MethodName)) ∈ tables_1 := List.mem_of_getElem? (i := 59) rfl
theorem tw_60 : (Jvm.Cond.selects "java/lang/String" ({ cls := "java/lang/String", name := "charAt", desc := "(I)C" } : Jvm.MethodName) ({ cls := "java/lang/String", name := "charAt", desc := "(I)C" } : Jvm.MethodName)) ∈ tables_1 := List.mem_of_getElem? (i := 60) rfl
theorem tw_61 : (Jvm.Cond.code ({ cls := "java/lang/String", name := "charAt", desc := "(I)C" } : Jvm.MethodName) jdk_42_method_56_code (2 : Nat) (Option.some Jvm.ClassFile.FieldType.char)) ∈ tables_1 := List.mem_of_getElem? (i := 61) rfl
theorem tw_62 : (Jvm.Cond.methodLink "java/lang/String" (492 : Nat) ({ cls := "java/lang/String", name := "isLatin1", desc := "()Z" } : Jvm.MethodName)) ∈ tables_1 := List.mem_of_getElem? (i := 62) rfl
theorem tw_63 : (Jvm.Cond.declares ({ cls := "java/lang/String", name := "isLatin1", desc := "()Z" } : Jvm.MethodName)) ∈ tables_1 := List.mem_of_getElem? (i := 63) rfl
theorem tw_64 : (Jvm.Cond.instanceMethod ({ cls := "java/lang/String", name := "isLatin1", desc := "()Z" } : Jvm.MethodName)) ∈ tables_1 := List.mem_of_getElem? (i := 64) rfl
theorem tw_65 : (Jvm.Cond.selects "java/lang/String" ({ cls := "java/lang/String", name := "isLatin1", desc := "()Z" } : Jvm.MethodName) ({ cls := "java/lang/String", name := "isLatin1", desc := "()Z" } : Jvm.MethodName)) ∈ tables_1 := List.mem_of_getElem? (i := 65) rfl
theorem tw_66 : (Jvm.Cond.code ({ cls := "java/lang/String", name := "isLatin1", desc := "()Z" } : Jvm.MethodName) jdk_42_method_154_code (1 : Nat) (Option.some Jvm.ClassFile.FieldType.boolean)) ∈ tables_1 := List.mem_of_getElem? (i := 66) rfl
theorem tw_67 : (Jvm.Cond.methodLink "java/lang/String" (495 : Nat) ({ cls := "java/lang/StringLatin1", name := "charAt", desc := "([BI)C" } : Jvm.MethodName)) ∈ tables_1 := List.mem_of_getElem? (i := 67) rfl
theorem tw_68 : (Jvm.Cond.static ({ cls := "java/lang/StringLatin1", name := "charAt", desc := "([BI)C" } : Jvm.MethodName)) ∈ tables_1 := List.mem_of_getElem? (i := 68) rfl
theorem tw_69 : (Jvm.Cond.initialized "java/lang/StringLatin1") ∈ tables_1 := List.mem_of_getElem? (i := 69) rfl
theorem tw_70 : (Jvm.Cond.code ({ cls := "java/lang/StringLatin1", name := "charAt", desc := "([BI)C" } : Jvm.MethodName) jdk_43_method_2_code (2 : Nat) (Option.some Jvm.ClassFile.FieldType.char)) ∈ tables_1 := List.mem_of_getElem? (i := 70) rfl
theorem tw_71 : (Jvm.Cond.methodLink "java/lang/StringLatin1" (9 : Nat) ({ cls := "java/lang/String", name := "checkIndex", desc := "(II)V" } : Jvm.MethodName)) ∈ tables_1 := List.mem_of_getElem? (i := 71) rfl
theorem tw_72 : (Jvm.Cond.static ({ cls := "java/lang/String", name := "checkIndex", desc := "(II)V" } : Jvm.MethodName)) ∈ tables_1 := List.mem_of_getElem? (i := 72) rfl
theorem tw_73 : (Jvm.Cond.code ({ cls := "java/lang/String", name := "checkIndex", desc := "(II)V" } : Jvm.MethodName) jdk_42_method_155_code (2 : Nat) (Option.none : Option Jvm.ClassFile.FieldType)) ∈ tables_1 := List.mem_of_getElem? (i := 73) rfl
theorem tw_74 : (Jvm.Cond.fieldLink "java/lang/String" (1053 : Nat) "jdk/internal/util/Preconditions" "SIOOBE_FORMATTER" "Ljava/util/function/BiFunction;") ∈ tables_1 := List.mem_of_getElem? (i := 74) rfl
theorem tw_75 : (Jvm.Cond.initialized "jdk/internal/util/Preconditions") ∈ tables_1 := List.mem_of_getElem? (i := 75) rfl
theorem tw_76 : (Jvm.Cond.methodLink "java/lang/String" (1059 : Nat) ({ cls := "jdk/internal/util/Preconditions", name := "checkIndex", desc := "(IILjava/util/function/BiFunction;)I" } : Jvm.MethodName)) ∈ tables_1 := List.mem_of_getElem? (i := 76) rfl
theorem tw_77 : (Jvm.Cond.static ({ cls := "jdk/internal/util/Preconditions", name := "checkIndex", desc := "(IILjava/util/function/BiFunction;)I" } : Jvm.MethodName)) ∈ tables_1 := List.mem_of_getElem? (i := 77) rfl
theorem tw_78 : (Jvm.Cond.code ({ cls := "jdk/internal/util/Preconditions", name := "checkIndex", desc := "(IILjava/util/function/BiFunction;)I" } : Jvm.MethodName) jdk_41_method_11_code (3 : Nat) (Option.some Jvm.ClassFile.FieldType.int)) ∈ tables_1 := List.mem_of_getElem? (i := 78) rfl
theorem tw_79 : (Jvm.Cond.methodLink "com/example/uni_errors/unierrors/CorrelationHeaders" (140 : Nat) ({ cls := "com/example/uni_errors/unierrors/CorrelationHeaders", name := "idChar", desc := "(I)Z" } : Jvm.MethodName)) ∈ tables_1 := List.mem_of_getElem? (i := 79) rfl
theorem tw_80 : (Jvm.Cond.static ({ cls := "com/example/uni_errors/unierrors/CorrelationHeaders", name := "idChar", desc := "(I)Z" } : Jvm.MethodName)) ∈ tables_1 := List.mem_of_getElem? (i := 80) rfl
theorem tw_81 : (Jvm.Cond.code ({ cls := "com/example/uni_errors/unierrors/CorrelationHeaders", name := "idChar", desc := "(I)Z" } : Jvm.MethodName) prog_5_method_8_code (1 : Nat) (Option.some Jvm.ClassFile.FieldType.boolean)) ∈ tables_1 := List.mem_of_getElem? (i := 81) rfl
theorem tw_82 : (Jvm.Cond.methodLink "com/example/uni_errors/unierrors/CorrelationHeaders" (171 : Nat) ({ cls := "com/example/uni_errors/unierrors/CorrelationHeaders", name := "asciiLetterOrDigit", desc := "(I)Z" } : Jvm.MethodName)) ∈ tables_1 := List.mem_of_getElem? (i := 82) rfl
theorem tw_83 : (Jvm.Cond.static ({ cls := "com/example/uni_errors/unierrors/CorrelationHeaders", name := "asciiLetterOrDigit", desc := "(I)Z" } : Jvm.MethodName)) ∈ tables_1 := List.mem_of_getElem? (i := 83) rfl
theorem tw_84 : (Jvm.Cond.code ({ cls := "com/example/uni_errors/unierrors/CorrelationHeaders", name := "asciiLetterOrDigit", desc := "(I)Z" } : Jvm.MethodName) prog_5_method_10_code (1 : Nat) (Option.some Jvm.ClassFile.FieldType.boolean)) ∈ tables_1 := List.mem_of_getElem? (i := 84) rfl
theorem tw_85 : (Jvm.Cond.methodLink "java/lang/StringUTF16" (119 : Nat) ({ cls := "java/lang/StringUTF16", name := "toBytes", desc := "([CII)[B" } : Jvm.MethodName)) ∈ tables_1 := List.mem_of_getElem? (i := 85) rfl
theorem tw_86 : (Jvm.Cond.static ({ cls := "java/lang/StringUTF16", name := "toBytes", desc := "([CII)[B" } : Jvm.MethodName)) ∈ tables_1 := List.mem_of_getElem? (i := 86) rfl
theorem tw_87 : (Jvm.Cond.code ({ cls := "java/lang/StringUTF16", name := "toBytes", desc := "([CII)[B" } : Jvm.MethodName) jdk_52_method_14_code (5 : Nat) (Option.some (Jvm.ClassFile.FieldType.array Jvm.ClassFile.FieldType.byte))) ∈ tables_1 := List.mem_of_getElem? (i := 87) rfl
theorem tw_88 : (Jvm.Cond.methodLink "java/lang/StringUTF16" (107 : Nat) ({ cls := "java/lang/StringUTF16", name := "newBytesFor", desc := "(I)[B" } : Jvm.MethodName)) ∈ tables_1 := List.mem_of_getElem? (i := 88) rfl
theorem tw_89 : (Jvm.Cond.static ({ cls := "java/lang/StringUTF16", name := "newBytesFor", desc := "(I)[B" } : Jvm.MethodName)) ∈ tables_1 := List.mem_of_getElem? (i := 89) rfl
theorem tw_90 : (Jvm.Cond.code ({ cls := "java/lang/StringUTF16", name := "newBytesFor", desc := "(I)[B" } : Jvm.MethodName) jdk_52_method_2_code (1 : Nat) (Option.some (Jvm.ClassFile.FieldType.array Jvm.ClassFile.FieldType.byte))) ∈ tables_1 := List.mem_of_getElem? (i := 90) rfl
theorem tw_91 : (Jvm.Cond.methodLink "java/lang/StringUTF16" (11 : Nat) ({ cls := "java/lang/StringUTF16", name := "newBytesLength", desc := "(I)I" } : Jvm.MethodName)) ∈ tables_1 := List.mem_of_getElem? (i := 91) rfl
theorem tw_92 : (Jvm.Cond.static ({ cls := "java/lang/StringUTF16", name := "newBytesLength", desc := "(I)I" } : Jvm.MethodName)) ∈ tables_1 := List.mem_of_getElem? (i := 92) rfl
theorem tw_93 : (Jvm.Cond.code ({ cls := "java/lang/StringUTF16", name := "newBytesLength", desc := "(I)I" } : Jvm.MethodName) jdk_52_method_3_code (1 : Nat) (Option.some Jvm.ClassFile.FieldType.int)) ∈ tables_1 := List.mem_of_getElem? (i := 93) rfl
theorem tw_94 : (Jvm.Cond.constant "java/lang/StringUTF16" (20 : Nat) (1073741823 : Int32)) ∈ tables_1 := List.mem_of_getElem? (i := 94) rfl
theorem tw_95 : (Jvm.Cond.methodLink "java/lang/StringUTF16" (111 : Nat) ({ cls := "java/lang/StringUTF16", name := "putChar", desc := "([BII)V" } : Jvm.MethodName)) ∈ tables_1 := List.mem_of_getElem? (i := 95) rfl
theorem tw_96 : (Jvm.Cond.static ({ cls := "java/lang/StringUTF16", name := "putChar", desc := "([BII)V" } : Jvm.MethodName)) ∈ tables_1 := List.mem_of_getElem? (i := 96) rfl
theorem tw_97 : (Jvm.Cond.code ({ cls := "java/lang/StringUTF16", name := "putChar", desc := "([BII)V" } : Jvm.MethodName) jdk_52_method_4_code (3 : Nat) (Option.none : Option Jvm.ClassFile.FieldType)) ∈ tables_1 := List.mem_of_getElem? (i := 97) rfl
theorem tw_98 : (Jvm.Cond.fieldLink "java/lang/StringUTF16" (44 : Nat) "java/lang/StringUTF16" "$assertionsDisabled" "Z") ∈ tables_1 := List.mem_of_getElem? (i := 98) rfl
theorem tw_99 : (Jvm.Cond.fieldLink "java/lang/StringUTF16" (59 : Nat) "java/lang/StringUTF16" "HI_BYTE_SHIFT" "I") ∈ tables_1 := List.mem_of_getElem? (i := 99) rfl
theorem tw_100 : (Jvm.Cond.fieldLink "java/lang/StringUTF16" (63 : Nat) "java/lang/StringUTF16" "LO_BYTE_SHIFT" "I") ∈ tables_1 := List.mem_of_getElem? (i := 100) rfl
theorem tw_101 : (Jvm.Cond.methodLink "java/lang/StringUTF16" (71 : Nat) ({ cls := "java/lang/StringUTF16", name := "getChar", desc := "([BI)C" } : Jvm.MethodName)) ∈ tables_1 := List.mem_of_getElem? (i := 101) rfl
theorem tw_102 : (Jvm.Cond.static ({ cls := "java/lang/StringUTF16", name := "getChar", desc := "([BI)C" } : Jvm.MethodName)) ∈ tables_1 := List.mem_of_getElem? (i := 102) rfl
theorem tw_103 : (Jvm.Cond.code ({ cls := "java/lang/StringUTF16", name := "getChar", desc := "([BI)C" } : Jvm.MethodName) jdk_52_method_5_code (2 : Nat) (Option.some Jvm.ClassFile.FieldType.char)) ∈ tables_1 := List.mem_of_getElem? (i := 103) rfl
theorem tw_104 : (Jvm.Cond.methodLink "java/lang/String" (498 : Nat) ({ cls := "java/lang/StringUTF16", name := "charAt", desc := "([BI)C" } : Jvm.MethodName)) ∈ tables_1 := List.mem_of_getElem? (i := 104) rfl
theorem tw_105 : (Jvm.Cond.static ({ cls := "java/lang/StringUTF16", name := "charAt", desc := "([BI)C" } : Jvm.MethodName)) ∈ tables_1 := List.mem_of_getElem? (i := 105) rfl
theorem tw_106 : (Jvm.Cond.code ({ cls := "java/lang/StringUTF16", name := "charAt", desc := "([BI)C" } : Jvm.MethodName) jdk_52_method_83_code (2 : Nat) (Option.some Jvm.ClassFile.FieldType.char)) ∈ tables_1 := List.mem_of_getElem? (i := 106) rfl
theorem tw_107 : (Jvm.Cond.methodLink "java/lang/StringUTF16" (67 : Nat) ({ cls := "java/lang/StringUTF16", name := "checkIndex", desc := "(I[B)V" } : Jvm.MethodName)) ∈ tables_1 := List.mem_of_getElem? (i := 107) rfl
theorem tw_108 : (Jvm.Cond.static ({ cls := "java/lang/StringUTF16", name := "checkIndex", desc := "(I[B)V" } : Jvm.MethodName)) ∈ tables_1 := List.mem_of_getElem? (i := 108) rfl
theorem tw_109 : (Jvm.Cond.code ({ cls := "java/lang/StringUTF16", name := "checkIndex", desc := "(I[B)V" } : Jvm.MethodName) jdk_52_method_91_code (2 : Nat) (Option.none : Option Jvm.ClassFile.FieldType)) ∈ tables_1 := List.mem_of_getElem? (i := 109) rfl
theorem tw_110 : (Jvm.Cond.methodLink "java/lang/StringUTF16" (48 : Nat) ({ cls := "java/lang/StringUTF16", name := "length", desc := "([B)I" } : Jvm.MethodName)) ∈ tables_1 := List.mem_of_getElem? (i := 110) rfl
theorem tw_111 : (Jvm.Cond.static ({ cls := "java/lang/StringUTF16", name := "length", desc := "([B)I" } : Jvm.MethodName)) ∈ tables_1 := List.mem_of_getElem? (i := 111) rfl
theorem tw_112 : (Jvm.Cond.code ({ cls := "java/lang/StringUTF16", name := "length", desc := "([B)I" } : Jvm.MethodName) jdk_52_method_6_code (1 : Nat) (Option.some Jvm.ClassFile.FieldType.int)) ∈ tables_1 := List.mem_of_getElem? (i := 112) rfl
theorem tw_113 : (Jvm.Cond.methodLink "java/lang/StringUTF16" (414 : Nat) ({ cls := "java/lang/String", name := "checkIndex", desc := "(II)V" } : Jvm.MethodName)) ∈ tables_1 := List.mem_of_getElem? (i := 113) rfl
theorem tw_114 : (Jvm.Cond.stringLink "com/example/uni_errors/unierrors/CorrelationHeadersIsValidIdPinLaw" (27 : Nat) "0123456789abcdefghijklmnopqrstuvwxyzABCDEFGHIJKLMNOPQRSTUVWXYZ._:-0123456789abcdefghijklmnopqrstuvwxyzABCDEFGHIJKLMNOPQRSTUVWXYZa") ∈ tables_1 := List.mem_of_getElem? (i := 114) rfl
theorem tw_115 : (Jvm.Cond.methodLink "com/example/uni_errors/unierrors/CorrelationHeadersIsValidIdPinLaw" (23 : Nat) ({ cls := "java/lang/String", name := "length", desc := "()I" } : Jvm.MethodName)) ∈ tables_1 := List.mem_of_getElem? (i := 115) rfl
theorem tw_116 : (Jvm.Cond.stringLink "com/example/uni_errors/unierrors/CorrelationHeadersIsValidIdPinLaw" (21 : Nat) "0123456789abcdefghijklmnopqrstuvwxyzABCDEFGHIJKLMNOPQRSTUVWXYZ._:-0123456789abcdefghijklmnopqrstuvwxyzABCDEFGHIJKLMNOPQRSTUVWXYZ") ∈ tables_1 := List.mem_of_getElem? (i := 116) rfl
theorem d1_0 : decode prog_5_method_6_code 0 = .ok (.aload_n 0, 1) := by decide +kernel
theorem d1_1 : decode prog_5_method_6_code 1 = .ok (.ifnull 20, 3) := by decide +kernel
theorem d1_4 : decode prog_5_method_6_code 4 = .ok (.aload_n 0, 1) := by decide +kernel
theorem d1_5 : decode prog_5_method_6_code 5 = .ok (.invokevirtual 33, 3) := by decide +kernel
theorem d1_8 : decode prog_5_method_6_code 8 = .ok (.ifCond .ne 13, 3) := by decide +kernel
theorem d1_11 : decode prog_5_method_6_code 11 = .ok (.aload_n 0, 1) := by decide +kernel
theorem d1_12 : decode prog_5_method_6_code 12 = .ok (.invokevirtual 132, 3) := by decide +kernel
theorem d1_15 : decode prog_5_method_6_code 15 = .ok (.sipush 128, 3) := by decide +kernel
theorem d1_18 : decode prog_5_method_6_code 18 = .ok (.if_icmp .le 5, 3) := by decide +kernel
theorem d1_21 : decode prog_5_method_6_code 21 = .ok (.iconst 0, 1) := by decide +kernel
theorem d1_22 : decode prog_5_method_6_code 22 = .ok (.ireturn, 1) := by decide +kernel
theorem d1_23 : decode prog_5_method_6_code 23 = .ok (.iconst 0, 1) := by decide +kernel
theorem d1_24 : decode prog_5_method_6_code 24 = .ok (.istore_n 1, 1) := by decide +kernel
theorem d1_25 : decode prog_5_method_6_code 25 = .ok (.iload_n 1, 1) := by decide +kernel
theorem d1_26 : decode prog_5_method_6_code 26 = .ok (.aload_n 0, 1) := by decide +kernel
theorem d1_27 : decode prog_5_method_6_code 27 = .ok (.invokevirtual 132, 3) := by decide +kernel
theorem d1_30 : decode prog_5_method_6_code 30 = .ok (.if_icmp .ge 22, 3) := by decide +kernel
theorem d1_33 : decode prog_5_method_6_code 33 = .ok (.aload_n 0, 1) := by decide +kernel
theorem d1_34 : decode prog_5_method_6_code 34 = .ok (.iload_n 1, 1) := by decide +kernel
theorem d1_35 : decode prog_5_method_6_code 35 = .ok (.invokevirtual 136, 3) := by decide +kernel
theorem d1_38 : decode prog_5_method_6_code 38 = .ok (.invokestatic 140, 3) := by decide +kernel
theorem d1_41 : decode prog_5_method_6_code 41 = .ok (.ifCond .ne 5, 3) := by decide +kernel
theorem d1_44 : decode prog_5_method_6_code 44 = .ok (.iconst 0, 1) := by decide +kernel
theorem d1_45 : decode prog_5_method_6_code 45 = .ok (.ireturn, 1) := by decide +kernel
theorem d1_46 : decode prog_5_method_6_code 46 = .ok (.iinc 1 1, 3) := by decide +kernel
theorem d1_49 : decode prog_5_method_6_code 49 = .ok (.goto (-24), 3) := by decide +kernel
theorem d1_52 : decode prog_5_method_6_code 52 = .ok (.iconst 1, 1) := by decide +kernel
theorem d1_53 : decode prog_5_method_6_code 53 = .ok (.ireturn, 1) := by decide +kernel
theorem d2_0 : decode jdk_42_method_55_code 0 = .ok (.aload_n 0, 1) := by decide +kernel
theorem d2_1 : decode jdk_42_method_55_code 1 = .ok (.getfield 9, 3) := by decide +kernel
theorem d2_4 : decode jdk_42_method_55_code 4 = .ok (.arraylength, 1) := by decide +kernel
theorem d2_5 : decode jdk_42_method_55_code 5 = .ok (.ifCond .ne 7, 3) := by decide +kernel
theorem d2_8 : decode jdk_42_method_55_code 8 = .ok (.iconst 1, 1) := by decide +kernel
theorem d2_9 : decode jdk_42_method_55_code 9 = .ok (.goto 4, 3) := by decide +kernel
theorem d2_12 : decode jdk_42_method_55_code 12 = .ok (.iconst 0, 1) := by decide +kernel
theorem d2_13 : decode jdk_42_method_55_code 13 = .ok (.ireturn, 1) := by decide +kernel
theorem d3_0 : decode jdk_42_method_3_code 0 = .ok (.aload_n 0, 1) := by decide +kernel
theorem d3_1 : decode jdk_42_method_3_code 1 = .ok (.aload_n 1, 1) := by decide +kernel
theorem d3_2 : decode jdk_42_method_3_code 2 = .ok (.iconst 0, 1) := by decide +kernel
theorem d3_3 : decode jdk_42_method_3_code 3 = .ok (.aload_n 1, 1) := by decide +kernel
theorem d3_4 : decode jdk_42_method_3_code 4 = .ok (.arraylength, 1) := by decide +kernel
theorem d3_5 : decode jdk_42_method_3_code 5 = .ok (.aconst_null, 1) := by decide +kernel
theorem d3_6 : decode jdk_42_method_3_code 6 = .ok (.invokespecial 27, 3) := by decide +kernel
theorem d3_9 : decode jdk_42_method_3_code 9 = .ok (.return_, 1) := by decide +kernel
theorem d4_0 : decode jdk_42_method_149_code 0 = .ok (.aload_n 0, 1) := by decide +kernel
theorem d4_1 : decode jdk_42_method_149_code 1 = .ok (.invokespecial 1, 3) := by decide +kernel
theorem d4_4 : decode jdk_42_method_149_code 4 = .ok (.iload_n 3, 1) := by decide +kernel
theorem d4_5 : decode jdk_42_method_149_code 5 = .ok (.ifCond .ne 22, 3) := by decide +kernel
theorem d4_27 : decode jdk_42_method_149_code 27 = .ok (.getstatic 38, 3) := by decide +kernel
theorem d4_30 : decode jdk_42_method_149_code 30 = .ok (.ifCond .eq 28, 3) := by decide +kernel
theorem d4_33 : decode jdk_42_method_149_code 33 = .ok (.aload_n 1, 1) := by decide +kernel
theorem d4_34 : decode jdk_42_method_149_code 34 = .ok (.iload_n 2, 1) := by decide +kernel
theorem d4_35 : decode jdk_42_method_149_code 35 = .ok (.iload_n 3, 1) := by decide +kernel
theorem d4_36 : decode jdk_42_method_149_code 36 = .ok (.invokestatic 177, 3) := by decide +kernel
theorem d4_39 : decode jdk_42_method_149_code 39 = .ok (.astore 5, 2) := by decide +kernel
theorem d4_41 : decode jdk_42_method_149_code 41 = .ok (.aload_n 0, 1) := by decide +kernel
theorem d4_42 : decode jdk_42_method_149_code 42 = .ok (.aload 5, 2) := by decide +kernel
theorem d4_44 : decode jdk_42_method_149_code 44 = .ok (.iload_n 3, 1) := by decide +kernel
theorem d4_45 : decode jdk_42_method_149_code 45 = .ok (.invokestatic 47, 3) := by decide +kernel
theorem d4_48 : decode jdk_42_method_149_code 48 = .ok (.putfield 15, 3) := by decide +kernel
theorem d4_51 : decode jdk_42_method_149_code 51 = .ok (.aload_n 0, 1) := by decide +kernel
theorem d4_52 : decode jdk_42_method_149_code 52 = .ok (.aload 5, 2) := by decide +kernel
theorem d4_54 : decode jdk_42_method_149_code 54 = .ok (.putfield 9, 3) := by decide +kernel
theorem d4_57 : decode jdk_42_method_149_code 57 = .ok (.return_, 1) := by decide +kernel
theorem d6_0 : decode jdk_52_method_16_code 0 = .ok (.iload_n 2, 1) := by decide +kernel
theorem d6_1 : decode jdk_52_method_16_code 1 = .ok (.newarray .byte, 2) := by decide +kernel
theorem d6_3 : decode jdk_52_method_16_code 3 = .ok (.astore_n 3, 1) := by decide +kernel
theorem d6_4 : decode jdk_52_method_16_code 4 = .ok (.aload_n 0, 1) := by decide +kernel
theorem d6_5 : decode jdk_52_method_16_code 5 = .ok (.iload_n 1, 1) := by decide +kernel
theorem d6_6 : decode jdk_52_method_16_code 6 = .ok (.aload_n 3, 1) := by decide +kernel
theorem d6_7 : decode jdk_52_method_16_code 7 = .ok (.iconst 0, 1) := by decide +kernel
theorem d6_8 : decode jdk_52_method_16_code 8 = .ok (.iload_n 2, 1) := by decide +kernel
theorem d6_9 : decode jdk_52_method_16_code 9 = .ok (.invokestatic 115, 3) := by decide +kernel
theorem d6_12 : decode jdk_52_method_16_code 12 = .ok (.istore 4, 2) := by decide +kernel
theorem d6_14 : decode jdk_52_method_16_code 14 = .ok (.iload 4, 2) := by decide +kernel
theorem d6_16 : decode jdk_52_method_16_code 16 = .ok (.iload_n 2, 1) := by decide +kernel
theorem d6_17 : decode jdk_52_method_16_code 17 = .ok (.if_icmp .eq 40, 3) := by decide +kernel
theorem d6_20 : decode jdk_52_method_16_code 20 = .ok (.aload_n 0, 1) := by decide +kernel
theorem d6_21 : decode jdk_52_method_16_code 21 = .ok (.iload_n 1, 1) := by decide +kernel
theorem d6_22 : decode jdk_52_method_16_code 22 = .ok (.iload_n 2, 1) := by decide +kernel
theorem d6_23 : decode jdk_52_method_16_code 23 = .ok (.invokestatic 119, 3) := by decide +kernel
theorem d6_26 : decode jdk_52_method_16_code 26 = .ok (.astore 5, 2) := by decide +kernel
theorem d6_28 : decode jdk_52_method_16_code 28 = .ok (.aload 5, 2) := by decide +kernel
theorem d6_30 : decode jdk_52_method_16_code 30 = .ok (.iload 4, 2) := by decide +kernel
theorem d6_32 : decode jdk_52_method_16_code 32 = .ok (.invokestatic 71, 3) := by decide +kernel
theorem d6_35 : decode jdk_52_method_16_code 35 = .ok (.sipush 255, 3) := by decide +kernel
theorem d6_38 : decode jdk_52_method_16_code 38 = .ok (.if_icmp .gt 16, 3) := by decide +kernel
theorem d6_54 : decode jdk_52_method_16_code 54 = .ok (.aload 5, 2) := by decide +kernel
theorem d6_56 : decode jdk_52_method_16_code 56 = .ok (.areturn, 1) := by decide +kernel
theorem d6_57 : decode jdk_52_method_16_code 57 = .ok (.aload_n 3, 1) := by decide +kernel
theorem d6_58 : decode jdk_52_method_16_code 58 = .ok (.areturn, 1) := by decide +kernel
theorem d7_0 : decode jdk_52_method_21_code 0 = .ok (.iconst 0, 1) := by decide +kernel
theorem d7_1 : decode jdk_52_method_21_code 1 = .ok (.istore 5, 2) := by decide +kernel
theorem d7_3 : decode jdk_52_method_21_code 3 = .ok (.iload 5, 2) := by decide +kernel
theorem d7_5 : decode jdk_52_method_21_code 5 = .ok (.iload 4, 2) := by decide +kernel
theorem d7_7 : decode jdk_52_method_21_code 7 = .ok (.if_icmp .ge 37, 3) := by decide +kernel
theorem d7_10 : decode jdk_52_method_21_code 10 = .ok (.aload_n 0, 1) := by decide +kernel
theorem d7_11 : decode jdk_52_method_21_code 11 = .ok (.iload_n 1, 1) := by decide +kernel
theorem d7_12 : decode jdk_52_method_21_code 12 = .ok (.caload, 1) := by decide +kernel
theorem d7_13 : decode jdk_52_method_21_code 13 = .ok (.istore 6, 2) := by decide +kernel
theorem d7_15 : decode jdk_52_method_21_code 15 = .ok (.iload 6, 2) := by decide +kernel
theorem d7_17 : decode jdk_52_method_21_code 17 = .ok (.sipush 255, 3) := by decide +kernel
theorem d7_20 : decode jdk_52_method_21_code 20 = .ok (.if_icmp .le 6, 3) := by decide +kernel
theorem d7_23 : decode jdk_52_method_21_code 23 = .ok (.iload 5, 2) := by decide +kernel
theorem d7_25 : decode jdk_52_method_21_code 25 = .ok (.ireturn, 1) := by decide +kernel
theorem d7_26 : decode jdk_52_method_21_code 26 = .ok (.aload_n 2, 1) := by decide +kernel
theorem d7_27 : decode jdk_52_method_21_code 27 = .ok (.iload_n 3, 1) := by decide +kernel
theorem d7_28 : decode jdk_52_method_21_code 28 = .ok (.iload 6, 2) := by decide +kernel
theorem d7_30 : decode jdk_52_method_21_code 30 = .ok (.i2b, 1) := by decide +kernel
theorem d7_31 : decode jdk_52_method_21_code 31 = .ok (.bastore, 1) := by decide +kernel
theorem d7_32 : decode jdk_52_method_21_code 32 = .ok (.iinc 1 1, 3) := by decide +kernel
theorem d7_35 : decode jdk_52_method_21_code 35 = .ok (.iinc 3 1, 3) := by decide +kernel
theorem d7_38 : decode jdk_52_method_21_code 38 = .ok (.iinc 5 1, 3) := by decide +kernel
theorem d7_41 : decode jdk_52_method_21_code 41 = .ok (.goto (-38), 3) := by decide +kernel
theorem d7_44 : decode jdk_52_method_21_code 44 = .ok (.iload 4, 2) := by decide +kernel
theorem d7_46 : decode jdk_52_method_21_code 46 = .ok (.ireturn, 1) := by decide +kernel
theorem d8_0 : decode jdk_52_method_15_code 0 = .ok (.iload_n 1, 1) := by decide +kernel
theorem d8_1 : decode jdk_52_method_15_code 1 = .ok (.aload_n 0, 1) := by decide +kernel
theorem d8_2 : decode jdk_52_method_15_code 2 = .ok (.arraylength, 1) := by decide +kernel
theorem d8_3 : decode jdk_52_method_15_code 3 = .ok (.isub, 1) := by decide +kernel
theorem d8_4 : decode jdk_52_method_15_code 4 = .ok (.bipush 31, 2) := by decide +kernel
theorem d8_6 : decode jdk_52_method_15_code 6 = .ok (.iushr, 1) := by decide +kernel
theorem d8_7 : decode jdk_52_method_15_code 7 = .ok (.i2b, 1) := by decide +kernel
theorem d8_8 : decode jdk_52_method_15_code 8 = .ok (.ireturn, 1) := by decide +kernel
theorem d9_0 : decode method_2_code 0 = .ok (.iload_n 0, 1) := by decide +kernel
theorem d9_1 : decode method_2_code 1 = .ok (.bipush 97, 2) := by decide +kernel
theorem d9_3 : decode method_2_code 3 = .ok (.if_icmp .lt 11, 3) := by decide +kernel
theorem d9_6 : decode method_2_code 6 = .ok (.iload_n 0, 1) := by decide +kernel
theorem d9_7 : decode method_2_code 7 = .ok (.bipush 122, 2) := by decide +kernel
theorem d9_9 : decode method_2_code 9 = .ok (.if_icmp .gt 5, 3) := by decide +kernel
theorem d9_12 : decode method_2_code 12 = .ok (.iconst 1, 1) := by decide +kernel
theorem d9_13 : decode method_2_code 13 = .ok (.ireturn, 1) := by decide +kernel
theorem d9_14 : decode method_2_code 14 = .ok (.iload_n 0, 1) := by decide +kernel
theorem d9_15 : decode method_2_code 15 = .ok (.bipush 65, 2) := by decide +kernel
theorem d9_17 : decode method_2_code 17 = .ok (.if_icmp .lt 11, 3) := by decide +kernel
theorem d9_20 : decode method_2_code 20 = .ok (.iload_n 0, 1) := by decide +kernel
theorem d9_21 : decode method_2_code 21 = .ok (.bipush 90, 2) := by decide +kernel
theorem d9_23 : decode method_2_code 23 = .ok (.if_icmp .gt 5, 3) := by decide +kernel
theorem d9_26 : decode method_2_code 26 = .ok (.iconst 1, 1) := by decide +kernel
theorem d9_27 : decode method_2_code 27 = .ok (.ireturn, 1) := by decide +kernel
theorem d9_28 : decode method_2_code 28 = .ok (.iload_n 0, 1) := by decide +kernel
theorem d9_29 : decode method_2_code 29 = .ok (.bipush 48, 2) := by decide +kernel
theorem d9_31 : decode method_2_code 31 = .ok (.if_icmp .lt 11, 3) := by decide +kernel
theorem d9_34 : decode method_2_code 34 = .ok (.iload_n 0, 1) := by decide +kernel
theorem d9_35 : decode method_2_code 35 = .ok (.bipush 57, 2) := by decide +kernel
theorem d9_37 : decode method_2_code 37 = .ok (.if_icmp .gt 5, 3) := by decide +kernel
theorem d9_40 : decode method_2_code 40 = .ok (.iconst 1, 1) := by decide +kernel
theorem d9_41 : decode method_2_code 41 = .ok (.ireturn, 1) := by decide +kernel
theorem d9_42 : decode method_2_code 42 = .ok (.iload_n 0, 1) := by decide +kernel
theorem d9_43 : decode method_2_code 43 = .ok (.bipush 46, 2) := by decide +kernel
theorem d9_45 : decode method_2_code 45 = .ok (.if_icmp .eq 21, 3) := by decide +kernel
theorem d9_48 : decode method_2_code 48 = .ok (.iload_n 0, 1) := by decide +kernel
theorem d9_49 : decode method_2_code 49 = .ok (.bipush 95, 2) := by decide +kernel
theorem d9_51 : decode method_2_code 51 = .ok (.if_icmp .eq 15, 3) := by decide +kernel
theorem d9_54 : decode method_2_code 54 = .ok (.iload_n 0, 1) := by decide +kernel
theorem d9_55 : decode method_2_code 55 = .ok (.bipush 58, 2) := by decide +kernel
theorem d9_57 : decode method_2_code 57 = .ok (.if_icmp .eq 9, 3) := by decide +kernel
theorem d9_60 : decode method_2_code 60 = .ok (.iload_n 0, 1) := by decide +kernel
theorem d9_61 : decode method_2_code 61 = .ok (.bipush 45, 2) := by decide +kernel
theorem d9_63 : decode method_2_code 63 = .ok (.if_icmp .ne 7, 3) := by decide +kernel
theorem d9_66 : decode method_2_code 66 = .ok (.iconst 1, 1) := by decide +kernel
theorem d9_67 : decode method_2_code 67 = .ok (.goto 4, 3) := by decide +kernel
theorem d9_70 : decode method_2_code 70 = .ok (.iconst 0, 1) := by decide +kernel
theorem d9_71 : decode method_2_code 71 = .ok (.ireturn, 1) := by decide +kernel
theorem d10_0 : decode jdk_42_method_54_code 0 = .ok (.aload_n 0, 1) := by decide +kernel
theorem d10_1 : decode jdk_42_method_54_code 1 = .ok (.getfield 9, 3) := by decide +kernel
theorem d10_4 : decode jdk_42_method_54_code 4 = .ok (.arraylength, 1) := by decide +kernel
theorem d10_5 : decode jdk_42_method_54_code 5 = .ok (.aload_n 0, 1) := by decide +kernel
theorem d10_6 : decode jdk_42_method_54_code 6 = .ok (.invokevirtual 335, 3) := by decide +kernel
theorem d10_9 : decode jdk_42_method_54_code 9 = .ok (.ishr, 1) := by decide +kernel
theorem d10_10 : decode jdk_42_method_54_code 10 = .ok (.ireturn, 1) := by decide +kernel
theorem d11_0 : decode jdk_42_method_152_code 0 = .ok (.getstatic 38, 3) := by decide +kernel
theorem d11_3 : decode jdk_42_method_152_code 3 = .ok (.ifCond .eq 10, 3) := by decide +kernel
theorem d11_6 : decode jdk_42_method_152_code 6 = .ok (.aload_n 0, 1) := by decide +kernel
theorem d11_7 : decode jdk_42_method_152_code 7 = .ok (.getfield 15, 3) := by decide +kernel
theorem d11_10 : decode jdk_42_method_152_code 10 = .ok (.goto 4, 3) := by decide +kernel
theorem d11_14 : decode jdk_42_method_152_code 14 = .ok (.ireturn, 1) := by decide +kernel
theorem d12_0 : decode jdk_42_method_56_code 0 = .ok (.aload_n 0, 1) := by decide +kernel
theorem d12_1 : decode jdk_42_method_56_code 1 = .ok (.invokevirtual 492, 3) := by decide +kernel
theorem d12_4 : decode jdk_42_method_56_code 4 = .ok (.ifCond .eq 12, 3) := by decide +kernel
theorem d12_7 : decode jdk_42_method_56_code 7 = .ok (.aload_n 0, 1) := by decide +kernel
theorem d12_8 : decode jdk_42_method_56_code 8 = .ok (.getfield 9, 3) := by decide +kernel
theorem d12_11 : decode jdk_42_method_56_code 11 = .ok (.iload_n 1, 1) := by decide +kernel
theorem d12_12 : decode jdk_42_method_56_code 12 = .ok (.invokestatic 495, 3) := by decide +kernel
theorem d12_15 : decode jdk_42_method_56_code 15 = .ok (.ireturn, 1) := by decide +kernel
theorem d12_16 : decode jdk_42_method_56_code 16 = .ok (.aload_n 0, 1) := by decide +kernel
theorem d12_17 : decode jdk_42_method_56_code 17 = .ok (.getfield 9, 3) := by decide +kernel
theorem d12_20 : decode jdk_42_method_56_code 20 = .ok (.iload_n 1, 1) := by decide +kernel
theorem d12_21 : decode jdk_42_method_56_code 21 = .ok (.invokestatic 498, 3) := by decide +kernel
theorem d12_24 : decode jdk_42_method_56_code 24 = .ok (.ireturn, 1) := by decide +kernel
theorem d13_0 : decode jdk_42_method_154_code 0 = .ok (.getstatic 38, 3) := by decide +kernel
theorem d13_3 : decode jdk_42_method_154_code 3 = .ok (.ifCond .eq 14, 3) := by decide +kernel
theorem d13_6 : decode jdk_42_method_154_code 6 = .ok (.aload_n 0, 1) := by decide +kernel
theorem d13_7 : decode jdk_42_method_154_code 7 = .ok (.getfield 15, 3) := by decide +kernel
theorem d13_10 : decode jdk_42_method_154_code 10 = .ok (.ifCond .ne 7, 3) := by decide +kernel
theorem d13_13 : decode jdk_42_method_154_code 13 = .ok (.iconst 1, 1) := by decide +kernel
theorem d13_14 : decode jdk_42_method_154_code 14 = .ok (.goto 4, 3) := by decide +kernel
theorem d13_17 : decode jdk_42_method_154_code 17 = .ok (.iconst 0, 1) := by decide +kernel
theorem d13_18 : decode jdk_42_method_154_code 18 = .ok (.ireturn, 1) := by decide +kernel
theorem d14_0 : decode jdk_43_method_2_code 0 = .ok (.iload_n 1, 1) := by decide +kernel
theorem d14_1 : decode jdk_43_method_2_code 1 = .ok (.aload_n 0, 1) := by decide +kernel
theorem d14_2 : decode jdk_43_method_2_code 2 = .ok (.arraylength, 1) := by decide +kernel
theorem d14_3 : decode jdk_43_method_2_code 3 = .ok (.invokestatic 9, 3) := by decide +kernel
theorem d14_6 : decode jdk_43_method_2_code 6 = .ok (.aload_n 0, 1) := by decide +kernel
theorem d14_7 : decode jdk_43_method_2_code 7 = .ok (.iload_n 1, 1) := by decide +kernel
theorem d14_8 : decode jdk_43_method_2_code 8 = .ok (.baload, 1) := by decide +kernel
theorem d14_9 : decode jdk_43_method_2_code 9 = .ok (.sipush 255, 3) := by decide +kernel
theorem d14_12 : decode jdk_43_method_2_code 12 = .ok (.iand, 1) := by decide +kernel
theorem d14_13 : decode jdk_43_method_2_code 13 = .ok (.i2c, 1) := by decide +kernel
theorem d14_14 : decode jdk_43_method_2_code 14 = .ok (.ireturn, 1) := by decide +kernel
theorem d15_0 : decode jdk_42_method_155_code 0 = .ok (.iload_n 0, 1) := by decide +kernel
theorem d15_1 : decode jdk_42_method_155_code 1 = .ok (.iload_n 1, 1) := by decide +kernel
theorem d15_2 : decode jdk_42_method_155_code 2 = .ok (.getstatic 1053, 3) := by decide +kernel
theorem d15_5 : decode jdk_42_method_155_code 5 = .ok (.invokestatic 1059, 3) := by decide +kernel
theorem d15_8 : decode jdk_42_method_155_code 8 = .ok (.pop, 1) := by decide +kernel
theorem d15_9 : decode jdk_42_method_155_code 9 = .ok (.return_, 1) := by decide +kernel
theorem d16_0 : decode jdk_41_method_11_code 0 = .ok (.iload_n 0, 1) := by decide +kernel
theorem d16_1 : decode jdk_41_method_11_code 1 = .ok (.ifCond .lt 8, 3) := by decide +kernel
theorem d16_4 : decode jdk_41_method_11_code 4 = .ok (.iload_n 0, 1) := by decide +kernel
theorem d16_5 : decode jdk_41_method_11_code 5 = .ok (.iload_n 1, 1) := by decide +kernel
theorem d16_6 : decode jdk_41_method_11_code 6 = .ok (.if_icmp .lt 10, 3) := by decide +kernel
theorem d16_16 : decode jdk_41_method_11_code 16 = .ok (.iload_n 0, 1) := by decide +kernel
theorem d16_17 : decode jdk_41_method_11_code 17 = .ok (.ireturn, 1) := by decide +kernel
theorem d17_0 : decode prog_5_method_8_code 0 = .ok (.iload_n 0, 1) := by decide +kernel
theorem d17_1 : decode prog_5_method_8_code 1 = .ok (.invokestatic 171, 3) := by decide +kernel
theorem d17_4 : decode prog_5_method_8_code 4 = .ok (.ifCond .ne 27, 3) := by decide +kernel
theorem d17_7 : decode prog_5_method_8_code 7 = .ok (.iload_n 0, 1) := by decide +kernel
theorem d17_8 : decode prog_5_method_8_code 8 = .ok (.bipush 46, 2) := by decide +kernel
theorem d17_10 : decode prog_5_method_8_code 10 = .ok (.if_icmp .eq 21, 3) := by decide +kernel
theorem d17_13 : decode prog_5_method_8_code 13 = .ok (.iload_n 0, 1) := by decide +kernel
theorem d17_14 : decode prog_5_method_8_code 14 = .ok (.bipush 95, 2) := by decide +kernel
theorem d17_16 : decode prog_5_method_8_code 16 = .ok (.if_icmp .eq 15, 3) := by decide +kernel
theorem d17_19 : decode prog_5_method_8_code 19 = .ok (.iload_n 0, 1) := by decide +kernel
theorem d17_20 : decode prog_5_method_8_code 20 = .ok (.bipush 58, 2) := by decide +kernel
theorem d17_22 : decode prog_5_method_8_code 22 = .ok (.if_icmp .eq 9, 3) := by decide +kernel
theorem d17_25 : decode prog_5_method_8_code 25 = .ok (.iload_n 0, 1) := by decide +kernel
theorem d17_26 : decode prog_5_method_8_code 26 = .ok (.bipush 45, 2) := by decide +kernel
theorem d17_28 : decode prog_5_method_8_code 28 = .ok (.if_icmp .ne 7, 3) := by decide +kernel
theorem d17_31 : decode prog_5_method_8_code 31 = .ok (.iconst 1, 1) := by decide +kernel
theorem d17_32 : decode prog_5_method_8_code 32 = .ok (.goto 4, 3) := by decide +kernel
theorem d17_35 : decode prog_5_method_8_code 35 = .ok (.iconst 0, 1) := by decide +kernel
theorem d17_36 : decode prog_5_method_8_code 36 = .ok (.ireturn, 1) := by decide +kernel
theorem d18_0 : decode prog_5_method_10_code 0 = .ok (.iload_n 0, 1) := by decide +kernel
theorem d18_1 : decode prog_5_method_10_code 1 = .ok (.bipush 97, 2) := by decide +kernel
theorem d18_3 : decode prog_5_method_10_code 3 = .ok (.if_icmp .lt 9, 3) := by decide +kernel
theorem d18_6 : decode prog_5_method_10_code 6 = .ok (.iload_n 0, 1) := by decide +kernel
theorem d18_7 : decode prog_5_method_10_code 7 = .ok (.bipush 122, 2) := by decide +kernel
theorem d18_9 : decode prog_5_method_10_code 9 = .ok (.if_icmp .le 27, 3) := by decide +kernel
theorem d18_12 : decode prog_5_method_10_code 12 = .ok (.iload_n 0, 1) := by decide +kernel
theorem d18_13 : decode prog_5_method_10_code 13 = .ok (.bipush 65, 2) := by decide +kernel
theorem d18_15 : decode prog_5_method_10_code 15 = .ok (.if_icmp .lt 9, 3) := by decide +kernel
theorem d18_18 : decode prog_5_method_10_code 18 = .ok (.iload_n 0, 1) := by decide +kernel
theorem d18_19 : decode prog_5_method_10_code 19 = .ok (.bipush 90, 2) := by decide +kernel
theorem d18_21 : decode prog_5_method_10_code 21 = .ok (.if_icmp .le 15, 3) := by decide +kernel
theorem d18_24 : decode prog_5_method_10_code 24 = .ok (.iload_n 0, 1) := by decide +kernel
theorem d18_25 : decode prog_5_method_10_code 25 = .ok (.bipush 48, 2) := by decide +kernel
theorem d18_27 : decode prog_5_method_10_code 27 = .ok (.if_icmp .lt 13, 3) := by decide +kernel
theorem d18_30 : decode prog_5_method_10_code 30 = .ok (.iload_n 0, 1) := by decide +kernel
theorem d18_31 : decode prog_5_method_10_code 31 = .ok (.bipush 57, 2) := by decide +kernel
theorem d18_33 : decode prog_5_method_10_code 33 = .ok (.if_icmp .gt 7, 3) := by decide +kernel
theorem d18_36 : decode prog_5_method_10_code 36 = .ok (.iconst 1, 1) := by decide +kernel
theorem d18_37 : decode prog_5_method_10_code 37 = .ok (.goto 4, 3) := by decide +kernel
theorem d18_40 : decode prog_5_method_10_code 40 = .ok (.iconst 0, 1) := by decide +kernel
theorem d18_41 : decode prog_5_method_10_code 41 = .ok (.ireturn, 1) := by decide +kernel
theorem d19_0 : decode jdk_52_method_14_code 0 = .ok (.iload_n 2, 1) := by decide +kernel
theorem d19_1 : decode jdk_52_method_14_code 1 = .ok (.invokestatic 107, 3) := by decide +kernel
theorem d19_4 : decode jdk_52_method_14_code 4 = .ok (.astore_n 3, 1) := by decide +kernel
theorem d19_5 : decode jdk_52_method_14_code 5 = .ok (.iconst 0, 1) := by decide +kernel
theorem d19_6 : decode jdk_52_method_14_code 6 = .ok (.istore 4, 2) := by decide +kernel
theorem d19_8 : decode jdk_52_method_14_code 8 = .ok (.iload 4, 2) := by decide +kernel
theorem d19_10 : decode jdk_52_method_14_code 10 = .ok (.iload_n 2, 1) := by decide +kernel
theorem d19_11 : decode jdk_52_method_14_code 11 = .ok (.if_icmp .ge 21, 3) := by decide +kernel
theorem d19_14 : decode jdk_52_method_14_code 14 = .ok (.aload_n 3, 1) := by decide +kernel
theorem d19_15 : decode jdk_52_method_14_code 15 = .ok (.iload 4, 2) := by decide +kernel
theorem d19_17 : decode jdk_52_method_14_code 17 = .ok (.aload_n 0, 1) := by decide +kernel
theorem d19_18 : decode jdk_52_method_14_code 18 = .ok (.iload_n 1, 1) := by decide +kernel
theorem d19_19 : decode jdk_52_method_14_code 19 = .ok (.caload, 1) := by decide +kernel
theorem d19_20 : decode jdk_52_method_14_code 20 = .ok (.invokestatic 111, 3) := by decide +kernel
theorem d19_23 : decode jdk_52_method_14_code 23 = .ok (.iinc 1 1, 3) := by decide +kernel
theorem d19_26 : decode jdk_52_method_14_code 26 = .ok (.iinc 4 1, 3) := by decide +kernel
theorem d19_29 : decode jdk_52_method_14_code 29 = .ok (.goto (-21), 3) := by decide +kernel
theorem d19_32 : decode jdk_52_method_14_code 32 = .ok (.aload_n 3, 1) := by decide +kernel
theorem d19_33 : decode jdk_52_method_14_code 33 = .ok (.areturn, 1) := by decide +kernel
theorem d20_0 : decode jdk_52_method_2_code 0 = .ok (.iload_n 0, 1) := by decide +kernel
theorem d20_1 : decode jdk_52_method_2_code 1 = .ok (.invokestatic 11, 3) := by decide +kernel
theorem d20_4 : decode jdk_52_method_2_code 4 = .ok (.newarray .byte, 2) := by decide +kernel
theorem d20_6 : decode jdk_52_method_2_code 6 = .ok (.areturn, 1) := by decide +kernel
theorem d21_0 : decode jdk_52_method_3_code 0 = .ok (.iload_n 0, 1) := by decide +kernel
theorem d21_1 : decode jdk_52_method_3_code 1 = .ok (.ifCond .ge 11, 3) := by decide +kernel
theorem d21_12 : decode jdk_52_method_3_code 12 = .ok (.iload_n 0, 1) := by decide +kernel
theorem d21_13 : decode jdk_52_method_3_code 13 = .ok (.ldc 20, 2) := by decide +kernel
theorem d21_15 : decode jdk_52_method_3_code 15 = .ok (.if_icmp .lt 40, 3) := by decide +kernel
theorem d21_55 : decode jdk_52_method_3_code 55 = .ok (.iload_n 0, 1) := by decide +kernel
theorem d21_56 : decode jdk_52_method_3_code 56 = .ok (.iconst 1, 1) := by decide +kernel
theorem d21_57 : decode jdk_52_method_3_code 57 = .ok (.ishl, 1) := by decide +kernel
theorem d21_58 : decode jdk_52_method_3_code 58 = .ok (.ireturn, 1) := by decide +kernel
theorem d22_0 : decode jdk_52_method_4_code 0 = .ok (.getstatic 44, 3) := by decide +kernel
theorem d22_3 : decode jdk_52_method_4_code 3 = .ok (.ifCond .ne 25, 3) := by decide +kernel
theorem d22_28 : decode jdk_52_method_4_code 28 = .ok (.iload_n 1, 1) := by decide +kernel
theorem d22_29 : decode jdk_52_method_4_code 29 = .ok (.iconst 1, 1) := by decide +kernel
theorem d22_30 : decode jdk_52_method_4_code 30 = .ok (.ishl, 1) := by decide +kernel
theorem d22_31 : decode jdk_52_method_4_code 31 = .ok (.istore_n 1, 1) := by decide +kernel
theorem d22_32 : decode jdk_52_method_4_code 32 = .ok (.aload_n 0, 1) := by decide +kernel
theorem d22_33 : decode jdk_52_method_4_code 33 = .ok (.iload_n 1, 1) := by decide +kernel
theorem d22_34 : decode jdk_52_method_4_code 34 = .ok (.iinc 1 1, 3) := by decide +kernel
theorem d22_37 : decode jdk_52_method_4_code 37 = .ok (.iload_n 2, 1) := by decide +kernel
theorem d22_38 : decode jdk_52_method_4_code 38 = .ok (.getstatic 59, 3) := by decide +kernel
theorem d22_41 : decode jdk_52_method_4_code 41 = .ok (.ishr, 1) := by decide +kernel
theorem d22_42 : decode jdk_52_method_4_code 42 = .ok (.i2b, 1) := by decide +kernel
theorem d22_43 : decode jdk_52_method_4_code 43 = .ok (.bastore, 1) := by decide +kernel
theorem d22_44 : decode jdk_52_method_4_code 44 = .ok (.aload_n 0, 1) := by decide +kernel
theorem d22_45 : decode jdk_52_method_4_code 45 = .ok (.iload_n 1, 1) := by decide +kernel
theorem d22_46 : decode jdk_52_method_4_code 46 = .ok (.iload_n 2, 1) := by decide +kernel
theorem d22_47 : decode jdk_52_method_4_code 47 = .ok (.getstatic 63, 3) := by decide +kernel
theorem d22_50 : decode jdk_52_method_4_code 50 = .ok (.ishr, 1) := by decide +kernel
theorem d22_51 : decode jdk_52_method_4_code 51 = .ok (.i2b, 1) := by decide +kernel
theorem d22_52 : decode jdk_52_method_4_code 52 = .ok (.bastore, 1) := by decide +kernel
theorem d22_53 : decode jdk_52_method_4_code 53 = .ok (.return_, 1) := by decide +kernel
theorem d23_0 : decode jdk_52_method_5_code 0 = .ok (.getstatic 44, 3) := by decide +kernel
theorem d23_3 : decode jdk_52_method_5_code 3 = .ok (.ifCond .ne 25, 3) := by decide +kernel
theorem d23_28 : decode jdk_52_method_5_code 28 = .ok (.iload_n 1, 1) := by decide +kernel
theorem d23_29 : decode jdk_52_method_5_code 29 = .ok (.iconst 1, 1) := by decide +kernel
theorem d23_30 : decode jdk_52_method_5_code 30 = .ok (.ishl, 1) := by decide +kernel
theorem d23_31 : decode jdk_52_method_5_code 31 = .ok (.istore_n 1, 1) := by decide +kernel
theorem d23_32 : decode jdk_52_method_5_code 32 = .ok (.aload_n 0, 1) := by decide +kernel
theorem d23_33 : decode jdk_52_method_5_code 33 = .ok (.iload_n 1, 1) := by decide +kernel
theorem d23_34 : decode jdk_52_method_5_code 34 = .ok (.iinc 1 1, 3) := by decide +kernel
theorem d23_37 : decode jdk_52_method_5_code 37 = .ok (.baload, 1) := by decide +kernel
theorem d23_38 : decode jdk_52_method_5_code 38 = .ok (.sipush 255, 3) := by decide +kernel
theorem d23_41 : decode jdk_52_method_5_code 41 = .ok (.iand, 1) := by decide +kernel
theorem d23_42 : decode jdk_52_method_5_code 42 = .ok (.getstatic 59, 3) := by decide +kernel
theorem d23_45 : decode jdk_52_method_5_code 45 = .ok (.ishl, 1) := by decide +kernel
theorem d23_46 : decode jdk_52_method_5_code 46 = .ok (.aload_n 0, 1) := by decide +kernel
theorem d23_47 : decode jdk_52_method_5_code 47 = .ok (.iload_n 1, 1) := by decide +kernel
theorem d23_48 : decode jdk_52_method_5_code 48 = .ok (.baload, 1) := by decide +kernel
theorem d23_49 : decode jdk_52_method_5_code 49 = .ok (.sipush 255, 3) := by decide +kernel
theorem d23_52 : decode jdk_52_method_5_code 52 = .ok (.iand, 1) := by decide +kernel
theorem d23_53 : decode jdk_52_method_5_code 53 = .ok (.getstatic 63, 3) := by decide +kernel
theorem d23_56 : decode jdk_52_method_5_code 56 = .ok (.ishl, 1) := by decide +kernel
theorem d23_57 : decode jdk_52_method_5_code 57 = .ok (.ior, 1) := by decide +kernel
theorem d23_58 : decode jdk_52_method_5_code 58 = .ok (.i2c, 1) := by decide +kernel
theorem d23_59 : decode jdk_52_method_5_code 59 = .ok (.ireturn, 1) := by decide +kernel
theorem d24_0 : decode jdk_52_method_83_code 0 = .ok (.iload_n 1, 1) := by decide +kernel
theorem d24_1 : decode jdk_52_method_83_code 1 = .ok (.aload_n 0, 1) := by decide +kernel
theorem d24_2 : decode jdk_52_method_83_code 2 = .ok (.invokestatic 67, 3) := by decide +kernel
theorem d24_5 : decode jdk_52_method_83_code 5 = .ok (.aload_n 0, 1) := by decide +kernel
theorem d24_6 : decode jdk_52_method_83_code 6 = .ok (.iload_n 1, 1) := by decide +kernel
theorem d24_7 : decode jdk_52_method_83_code 7 = .ok (.invokestatic 71, 3) := by decide +kernel
theorem d24_10 : decode jdk_52_method_83_code 10 = .ok (.ireturn, 1) := by decide +kernel
theorem d25_0 : decode jdk_52_method_91_code 0 = .ok (.iload_n 0, 1) := by decide +kernel
theorem d25_1 : decode jdk_52_method_91_code 1 = .ok (.aload_n 1, 1) := by decide +kernel
theorem d25_2 : decode jdk_52_method_91_code 2 = .ok (.invokestatic 48, 3) := by decide +kernel
theorem d25_5 : decode jdk_52_method_91_code 5 = .ok (.invokestatic 414, 3) := by decide +kernel
theorem d25_8 : decode jdk_52_method_91_code 8 = .ok (.return_, 1) := by decide +kernel
theorem d26_0 : decode jdk_52_method_6_code 0 = .ok (.aload_n 0, 1) := by decide +kernel
theorem d26_1 : decode jdk_52_method_6_code 1 = .ok (.arraylength, 1) := by decide +kernel
theorem d26_2 : decode jdk_52_method_6_code 2 = .ok (.iconst 1, 1) := by decide +kernel
theorem d26_3 : decode jdk_52_method_6_code 3 = .ok (.ishr, 1) := by decide +kernel
theorem d26_4 : decode jdk_52_method_6_code 4 = .ok (.ireturn, 1) := by decide +kernel
theorem pd_0 : parseMethodDescriptor "(I)Z" = some ⟨[.int], some .boolean⟩ := by decide +kernel
theorem pd_1 : parseMethodDescriptor "(IILjava/util/function/BiFunction;)I" = some ⟨[.int, .int, (.object "java/util/function/BiFunction")], some .int⟩ := by decide +kernel
theorem pd_2 : parseMethodDescriptor "(II)V" = some ⟨[.int, .int], none⟩ := by decide +kernel
theorem pd_3 : parseMethodDescriptor "([B)I" = some ⟨[(.array .byte)], some .int⟩ := by decide +kernel
theorem pd_4 : parseMethodDescriptor "(I[B)V" = some ⟨[.int, (.array .byte)], none⟩ := by decide +kernel
theorem pd_5 : parseMethodDescriptor "([BI)C" = some ⟨[(.array .byte), .int], some .char⟩ := by decide +kernel
theorem pd_6 : parseMethodDescriptor "()B" = some ⟨[], some .byte⟩ := by decide +kernel
theorem pd_7 : parseMethodDescriptor "()Z" = some ⟨[], some .boolean⟩ := by decide +kernel
theorem pd_8 : parseMethodDescriptor "()I" = some ⟨[], some .int⟩ := by decide +kernel
theorem pd_9 : parseMethodDescriptor "(I)C" = some ⟨[.int], some .char⟩ := by decide +kernel
theorem pd_10 : parseMethodDescriptor "(I)I" = some ⟨[.int], some .int⟩ := by decide +kernel
theorem pd_11 : parseMethodDescriptor "(I)[B" = some ⟨[.int], some (.array .byte)⟩ := by decide +kernel
theorem pd_12 : parseMethodDescriptor "([BII)V" = some ⟨[(.array .byte), .int, .int], none⟩ := by decide +kernel
theorem pd_13 : parseMethodDescriptor "([CI[BII)I" = some ⟨[(.array .char), .int, (.array .byte), .int, .int], some .int⟩ := by decide +kernel
theorem pd_14 : parseMethodDescriptor "([CII)[B" = some ⟨[(.array .char), .int, .int], some (.array .byte)⟩ := by decide +kernel
theorem pd_15 : parseMethodDescriptor "([BI)B" = some ⟨[(.array .byte), .int], some .byte⟩ := by decide +kernel
theorem pd_16 : parseMethodDescriptor "([CIILjava/lang/Void;)V" = some ⟨[(.array .char), .int, .int, (.object "java/lang/Void")], none⟩ := by decide +kernel
theorem pd_17 : parseMethodDescriptor "(Ljava/lang/String;)Z" = some ⟨[(.object "java/lang/String")], some .boolean⟩ := by decide +kernel
theorem pd_18 : parseMethodDescriptor "([C)V" = some ⟨[(.array .char)], none⟩ := by decide +kernel
theorem pd_19 : parseMethodDescriptor "(C)Z" = some ⟨[.char], some .boolean⟩ := by decide +kernel
theorem pn_0 : plainName "com/example/uni_errors/unierrors/CorrelationHeadersIsValidIdPinLaw" = true := by first | (simp [plainName, overriddenIn]; done) | decide +kernel
theorem pn_1 : plainName "com/example/uni_errors/unierrors/CorrelationHeaders" = true := by first | (simp [plainName, overriddenIn]; done) | decide +kernel
theorem pn_2 : plainName "jdk/internal/util/Preconditions" = true := by first | (simp [plainName, overriddenIn]; done) | decide +kernel
theorem pn_3 : plainName "java/lang/String" = true := by first | (simp [plainName, overriddenIn]; done) | decide +kernel
theorem pn_4 : plainName "java/lang/StringLatin1" = true := by first | (simp [plainName, overriddenIn]; done) | decide +kernel
theorem pn_5 : plainName "java/lang/StringUTF16" = true := by first | (simp [plainName, overriddenIn]; done) | decide +kernel
theorem ef_9 (m : MethodId) (x0 : Int32) : entryFrame m #[(.int x0)] 1 = mkF m 0 #[.val (.int x0)] [] := by first | (simp [entryFrame, mkF, argsToLocals, Value.category]; done) | rfl
theorem ef_18 (m : MethodId) (x0 : Int32) : entryFrame m #[(.int x0)] 1 = mkF m 0 #[.val (.int x0)] [] := by first | (simp [entryFrame, mkF, argsToLocals, Value.category]; done) | rfl
theorem ef_17 (m : MethodId) (x0 : Int32) : entryFrame m #[(.int x0)] 1 = mkF m 0 #[.val (.int x0)] [] := by first | (simp [entryFrame, mkF, argsToLocals, Value.category]; done) | rfl
theorem ef_pci (m : MethodId) (x0 : Int32) (x1 : Int32) (fm : Value) (hfm : fm.isRef = true) : entryFrame m #[(.int x0), (.int x1), fm] 3 = mkF m 0 #[.val (.int x0), .val (.int x1), .val fm] [] := by 
  rcases Jvm.Free.XT.refc hfm with rfl | ⟨w, rfl⟩
  all_goals first | (simp [entryFrame, mkF, argsToLocals, Value.category]; done) | rfl
theorem ef_sci (m : MethodId) (x0 : Int32) (x1 : Int32) : entryFrame m #[(.int x0), (.int x1)] 2 = mkF m 0 #[.val (.int x0), .val (.int x1)] [] := by first | (simp [entryFrame, mkF, argsToLocals, Value.category]; done) | rfl
theorem ef_lca (m : MethodId) (x0 : Addr) (x1 : Int32) : entryFrame m #[(.ref x0), (.int x1)] 2 = mkF m 0 #[.val (.ref x0), .val (.int x1)] [] := by first | (simp [entryFrame, mkF, argsToLocals, Value.category]; done) | rfl
theorem ef_ule (m : MethodId) (x0 : Addr) : entryFrame m #[(.ref x0)] 1 = mkF m 0 #[.val (.ref x0)] [] := by first | (simp [entryFrame, mkF, argsToLocals, Value.category]; done) | rfl
theorem ef_uci (m : MethodId) (x0 : Int32) (x1 : Addr) : entryFrame m #[(.int x0), (.ref x1)] 2 = mkF m 0 #[.val (.int x0), .val (.ref x1)] [] := by first | (simp [entryFrame, mkF, argsToLocals, Value.category]; done) | rfl
theorem ef_ugc (m : MethodId) (x0 : Addr) (x1 : Int32) : entryFrame m #[(.ref x0), (.int x1)] 2 = mkF m 0 #[.val (.ref x0), .val (.int x1)] [] := by first | (simp [entryFrame, mkF, argsToLocals, Value.category]; done) | rfl
theorem ef_uca (m : MethodId) (x0 : Addr) (x1 : Int32) : entryFrame m #[(.ref x0), (.int x1)] 2 = mkF m 0 #[.val (.ref x0), .val (.int x1)] [] := by first | (simp [entryFrame, mkF, argsToLocals, Value.category]; done) | rfl
theorem ef_coder0 (m : MethodId) (x0 : Addr) : entryFrame m #[(.ref x0)] 1 = mkF m 0 #[.val (.ref x0)] [] := by first | (simp [entryFrame, mkF, argsToLocals, Value.category]; done) | rfl
theorem ef_isLatin10 (m : MethodId) (x0 : Addr) : entryFrame m #[(.ref x0)] 1 = mkF m 0 #[.val (.ref x0)] [] := by first | (simp [entryFrame, mkF, argsToLocals, Value.category]; done) | rfl
theorem ef_length0 (m : MethodId) (x0 : Addr) : entryFrame m #[(.ref x0)] 1 = mkF m 0 #[.val (.ref x0)] [] := by first | (simp [entryFrame, mkF, argsToLocals, Value.category]; done) | rfl
theorem ef_coder1 (m : MethodId) (x0 : Addr) : entryFrame m #[(.ref x0)] 1 = mkF m 0 #[.val (.ref x0)] [] := by first | (simp [entryFrame, mkF, argsToLocals, Value.category]; done) | rfl
theorem ef_isLatin11 (m : MethodId) (x0 : Addr) : entryFrame m #[(.ref x0)] 1 = mkF m 0 #[.val (.ref x0)] [] := by first | (simp [entryFrame, mkF, argsToLocals, Value.category]; done) | rfl
theorem ef_length1 (m : MethodId) (x0 : Addr) : entryFrame m #[(.ref x0)] 1 = mkF m 0 #[.val (.ref x0)] [] := by first | (simp [entryFrame, mkF, argsToLocals, Value.category]; done) | rfl
theorem ef_ise0 (m : MethodId) (x0 : Addr) : entryFrame m #[(.ref x0)] 1 = mkF m 0 #[.val (.ref x0)] [] := by first | (simp [entryFrame, mkF, argsToLocals, Value.category]; done) | rfl
theorem ef_ise1 (m : MethodId) (x0 : Addr) : entryFrame m #[(.ref x0)] 1 = mkF m 0 #[.val (.ref x0)] [] := by first | (simp [entryFrame, mkF, argsToLocals, Value.category]; done) | rfl
theorem ef_cha0 (m : MethodId) (x0 : Addr) (x1 : Int32) : entryFrame m #[(.ref x0), (.int x1)] 2 = mkF m 0 #[.val (.ref x0), .val (.int x1)] [] := by first | (simp [entryFrame, mkF, argsToLocals, Value.category]; done) | rfl
theorem ef_cha1 (m : MethodId) (x0 : Addr) (x1 : Int32) : entryFrame m #[(.ref x0), (.int x1)] 2 = mkF m 0 #[.val (.ref x0), .val (.int x1)] [] := by first | (simp [entryFrame, mkF, argsToLocals, Value.category]; done) | rfl
theorem ef_vnull (m : MethodId)  : entryFrame m #[.null] 2 = mkF m 0 #[.val .null, .unset] [] := by first | (simp [entryFrame, mkF, argsToLocals, Value.category]; done) | rfl
theorem ef_v0_1 (m : MethodId) (x0 : Addr) : entryFrame m #[(.ref x0)] 2 = mkF m 0 #[.val (.ref x0), .unset] [] := by first | (simp [entryFrame, mkF, argsToLocals, Value.category]; done) | rfl
theorem ef_v1_1 (m : MethodId) (x0 : Addr) : entryFrame m #[(.ref x0)] 2 = mkF m 0 #[.val (.ref x0), .unset] [] := by first | (simp [entryFrame, mkF, argsToLocals, Value.category]; done) | rfl
theorem ef_v0_2 (m : MethodId) (x0 : Addr) : entryFrame m #[(.ref x0)] 2 = mkF m 0 #[.val (.ref x0), .unset] [] := by first | (simp [entryFrame, mkF, argsToLocals, Value.category]; done) | rfl
theorem ef_v1_2 (m : MethodId) (x0 : Addr) : entryFrame m #[(.ref x0)] 2 = mkF m 0 #[.val (.ref x0), .unset] [] := by first | (simp [entryFrame, mkF, argsToLocals, Value.category]; done) | rfl
theorem ef_v0_3 (m : MethodId) (x0 : Addr) : entryFrame m #[(.ref x0)] 2 = mkF m 0 #[.val (.ref x0), .unset] [] := by first | (simp [entryFrame, mkF, argsToLocals, Value.category]; done) | rfl
theorem ef_v1_3 (m : MethodId) (x0 : Addr) : entryFrame m #[(.ref x0)] 2 = mkF m 0 #[.val (.ref x0), .unset] [] := by first | (simp [entryFrame, mkF, argsToLocals, Value.category]; done) | rfl
theorem ef_v0_4 (m : MethodId) (x0 : Addr) : entryFrame m #[(.ref x0)] 2 = mkF m 0 #[.val (.ref x0), .unset] [] := by first | (simp [entryFrame, mkF, argsToLocals, Value.category]; done) | rfl
theorem ef_v1_4 (m : MethodId) (x0 : Addr) : entryFrame m #[(.ref x0)] 2 = mkF m 0 #[.val (.ref x0), .unset] [] := by first | (simp [entryFrame, mkF, argsToLocals, Value.category]; done) | rfl
theorem ef_v0_5 (m : MethodId) (x0 : Addr) : entryFrame m #[(.ref x0)] 2 = mkF m 0 #[.val (.ref x0), .unset] [] := by first | (simp [entryFrame, mkF, argsToLocals, Value.category]; done) | rfl
theorem ef_v1_5 (m : MethodId) (x0 : Addr) : entryFrame m #[(.ref x0)] 2 = mkF m 0 #[.val (.ref x0), .unset] [] := by first | (simp [entryFrame, mkF, argsToLocals, Value.category]; done) | rfl
theorem ef_vempty (m : MethodId) (x0 : Addr) : entryFrame m #[(.ref x0)] 2 = mkF m 0 #[.val (.ref x0), .unset] [] := by first | (simp [entryFrame, mkF, argsToLocals, Value.category]; done) | rfl
theorem ef_v129 (m : MethodId) (x0 : Addr) : entryFrame m #[(.ref x0)] 2 = mkF m 0 #[.val (.ref x0), .unset] [] := by first | (simp [entryFrame, mkF, argsToLocals, Value.category]; done) | rfl
theorem ef_v128 (m : MethodId) (x0 : Addr) : entryFrame m #[(.ref x0)] 2 = mkF m 0 #[.val (.ref x0), .unset] [] := by first | (simp [entryFrame, mkF, argsToLocals, Value.category]; done) | rfl
theorem ef_nbl_1 (m : MethodId)  : entryFrame m #[(.int (1 : Int32))] 1 = mkF m 0 #[.val (.int (1 : Int32))] [] := by first | (simp [entryFrame, mkF, argsToLocals, Value.category]; done) | rfl
theorem ef_nbl_2 (m : MethodId)  : entryFrame m #[(.int (2 : Int32))] 1 = mkF m 0 #[.val (.int (2 : Int32))] [] := by first | (simp [entryFrame, mkF, argsToLocals, Value.category]; done) | rfl
theorem ef_nbl_3 (m : MethodId)  : entryFrame m #[(.int (3 : Int32))] 1 = mkF m 0 #[.val (.int (3 : Int32))] [] := by first | (simp [entryFrame, mkF, argsToLocals, Value.category]; done) | rfl
theorem ef_nbl_4 (m : MethodId)  : entryFrame m #[(.int (4 : Int32))] 1 = mkF m 0 #[.val (.int (4 : Int32))] [] := by first | (simp [entryFrame, mkF, argsToLocals, Value.category]; done) | rfl
theorem ef_nbl_5 (m : MethodId)  : entryFrame m #[(.int (5 : Int32))] 1 = mkF m 0 #[.val (.int (5 : Int32))] [] := by first | (simp [entryFrame, mkF, argsToLocals, Value.category]; done) | rfl
theorem ef_nbf_1 (m : MethodId)  : entryFrame m #[(.int (1 : Int32))] 1 = mkF m 0 #[.val (.int (1 : Int32))] [] := by first | (simp [entryFrame, mkF, argsToLocals, Value.category]; done) | rfl
theorem ef_nbf_2 (m : MethodId)  : entryFrame m #[(.int (2 : Int32))] 1 = mkF m 0 #[.val (.int (2 : Int32))] [] := by first | (simp [entryFrame, mkF, argsToLocals, Value.category]; done) | rfl
theorem ef_nbf_3 (m : MethodId)  : entryFrame m #[(.int (3 : Int32))] 1 = mkF m 0 #[.val (.int (3 : Int32))] [] := by first | (simp [entryFrame, mkF, argsToLocals, Value.category]; done) | rfl
theorem ef_nbf_4 (m : MethodId)  : entryFrame m #[(.int (4 : Int32))] 1 = mkF m 0 #[.val (.int (4 : Int32))] [] := by first | (simp [entryFrame, mkF, argsToLocals, Value.category]; done) | rfl
theorem ef_nbf_5 (m : MethodId)  : entryFrame m #[(.int (5 : Int32))] 1 = mkF m 0 #[.val (.int (5 : Int32))] [] := by first | (simp [entryFrame, mkF, argsToLocals, Value.category]; done) | rfl
theorem ef_puc (m : MethodId) (x0 : Addr) (x1 : Int32) (x2 : Int32) : entryFrame m #[(.ref x0), (.int x1), (.int x2)] 3 = mkF m 0 #[.val (.ref x0), .val (.int x1), .val (.int x2)] [] := by first | (simp [entryFrame, mkF, argsToLocals, Value.category]; done) | rfl
theorem ef_tob_1 (m : MethodId) (x0 : Addr) : entryFrame m #[(.ref x0), (.int (0 : Int32)), (.int (1 : Int32))] 5 = mkF m 0 #[.val (.ref x0), .val (.int (0 : Int32)), .val (.int (1 : Int32)), .unset, .unset] [] := by first | (simp [entryFrame, mkF, argsToLocals, Value.category]; done) | rfl
theorem ef_tob_2 (m : MethodId) (x0 : Addr) : entryFrame m #[(.ref x0), (.int (0 : Int32)), (.int (2 : Int32))] 5 = mkF m 0 #[.val (.ref x0), .val (.int (0 : Int32)), .val (.int (2 : Int32)), .unset, .unset] [] := by first | (simp [entryFrame, mkF, argsToLocals, Value.category]; done) | rfl
theorem ef_tob_3 (m : MethodId) (x0 : Addr) : entryFrame m #[(.ref x0), (.int (0 : Int32)), (.int (3 : Int32))] 5 = mkF m 0 #[.val (.ref x0), .val (.int (0 : Int32)), .val (.int (3 : Int32)), .unset, .unset] [] := by first | (simp [entryFrame, mkF, argsToLocals, Value.category]; done) | rfl
theorem ef_tob_4 (m : MethodId) (x0 : Addr) : entryFrame m #[(.ref x0), (.int (0 : Int32)), (.int (4 : Int32))] 5 = mkF m 0 #[.val (.ref x0), .val (.int (0 : Int32)), .val (.int (4 : Int32)), .unset, .unset] [] := by first | (simp [entryFrame, mkF, argsToLocals, Value.category]; done) | rfl
theorem ef_tob_5 (m : MethodId) (x0 : Addr) : entryFrame m #[(.ref x0), (.int (0 : Int32)), (.int (5 : Int32))] 5 = mkF m 0 #[.val (.ref x0), .val (.int (0 : Int32)), .val (.int (5 : Int32)), .unset, .unset] [] := by first | (simp [entryFrame, mkF, argsToLocals, Value.category]; done) | rfl
theorem ef_c2_1 (m : MethodId) (x0 : Addr) (x2 : Addr) : entryFrame m #[(.ref x0), (.int (0 : Int32)), (.ref x2), (.int (0 : Int32)), (.int (1 : Int32))] 7 = mkF m 0 #[.val (.ref x0), .val (.int (0 : Int32)), .val (.ref x2), .val (.int (0 : Int32)), .val (.int (1 : Int32)), .unset, .unset] [] := by first | (simp [entryFrame, mkF, argsToLocals, Value.category]; done) | rfl
theorem ef_c2_2 (m : MethodId) (x0 : Addr) (x2 : Addr) : entryFrame m #[(.ref x0), (.int (0 : Int32)), (.ref x2), (.int (0 : Int32)), (.int (2 : Int32))] 7 = mkF m 0 #[.val (.ref x0), .val (.int (0 : Int32)), .val (.ref x2), .val (.int (0 : Int32)), .val (.int (2 : Int32)), .unset, .unset] [] := by first | (simp [entryFrame, mkF, argsToLocals, Value.category]; done) | rfl
theorem ef_c2_3 (m : MethodId) (x0 : Addr) (x2 : Addr) : entryFrame m #[(.ref x0), (.int (0 : Int32)), (.ref x2), (.int (0 : Int32)), (.int (3 : Int32))] 7 = mkF m 0 #[.val (.ref x0), .val (.int (0 : Int32)), .val (.ref x2), .val (.int (0 : Int32)), .val (.int (3 : Int32)), .unset, .unset] [] := by first | (simp [entryFrame, mkF, argsToLocals, Value.category]; done) | rfl
theorem ef_c2_4 (m : MethodId) (x0 : Addr) (x2 : Addr) : entryFrame m #[(.ref x0), (.int (0 : Int32)), (.ref x2), (.int (0 : Int32)), (.int (4 : Int32))] 7 = mkF m 0 #[.val (.ref x0), .val (.int (0 : Int32)), .val (.ref x2), .val (.int (0 : Int32)), .val (.int (4 : Int32)), .unset, .unset] [] := by first | (simp [entryFrame, mkF, argsToLocals, Value.category]; done) | rfl
theorem ef_c2_5 (m : MethodId) (x0 : Addr) (x2 : Addr) : entryFrame m #[(.ref x0), (.int (0 : Int32)), (.ref x2), (.int (0 : Int32)), (.int (5 : Int32))] 7 = mkF m 0 #[.val (.ref x0), .val (.int (0 : Int32)), .val (.ref x2), .val (.int (0 : Int32)), .val (.int (5 : Int32)), .unset, .unset] [] := by first | (simp [entryFrame, mkF, argsToLocals, Value.category]; done) | rfl
theorem ef_c1_1 (m : MethodId) (x0 : Addr) : entryFrame m #[(.ref x0), (.int (0 : Int32)), (.int (1 : Int32))] 6 = mkF m 0 #[.val (.ref x0), .val (.int (0 : Int32)), .val (.int (1 : Int32)), .unset, .unset, .unset] [] := by first | (simp [entryFrame, mkF, argsToLocals, Value.category]; done) | rfl
theorem ef_c1_2 (m : MethodId) (x0 : Addr) : entryFrame m #[(.ref x0), (.int (0 : Int32)), (.int (2 : Int32))] 6 = mkF m 0 #[.val (.ref x0), .val (.int (0 : Int32)), .val (.int (2 : Int32)), .unset, .unset, .unset] [] := by first | (simp [entryFrame, mkF, argsToLocals, Value.category]; done) | rfl
theorem ef_c1_3 (m : MethodId) (x0 : Addr) : entryFrame m #[(.ref x0), (.int (0 : Int32)), (.int (3 : Int32))] 6 = mkF m 0 #[.val (.ref x0), .val (.int (0 : Int32)), .val (.int (3 : Int32)), .unset, .unset, .unset] [] := by first | (simp [entryFrame, mkF, argsToLocals, Value.category]; done) | rfl
theorem ef_c1_4 (m : MethodId) (x0 : Addr) : entryFrame m #[(.ref x0), (.int (0 : Int32)), (.int (4 : Int32))] 6 = mkF m 0 #[.val (.ref x0), .val (.int (0 : Int32)), .val (.int (4 : Int32)), .unset, .unset, .unset] [] := by first | (simp [entryFrame, mkF, argsToLocals, Value.category]; done) | rfl
theorem ef_c1_5 (m : MethodId) (x0 : Addr) : entryFrame m #[(.ref x0), (.int (0 : Int32)), (.int (5 : Int32))] 6 = mkF m 0 #[.val (.ref x0), .val (.int (0 : Int32)), .val (.int (5 : Int32)), .unset, .unset, .unset] [] := by first | (simp [entryFrame, mkF, argsToLocals, Value.category]; done) | rfl
theorem ef_cal0_1 (m : MethodId) (x0 : Addr) : entryFrame m #[(.ref x0), (.int (1 : Int32))] 2 = mkF m 0 #[.val (.ref x0), .val (.int (1 : Int32))] [] := by first | (simp [entryFrame, mkF, argsToLocals, Value.category]; done) | rfl
theorem ef_cal1_1 (m : MethodId) (x0 : Addr) : entryFrame m #[(.ref x0), (.int (1 : Int32))] 2 = mkF m 0 #[.val (.ref x0), .val (.int (1 : Int32))] [] := by first | (simp [entryFrame, mkF, argsToLocals, Value.category]; done) | rfl
theorem ef_cal0_2 (m : MethodId) (x0 : Addr) : entryFrame m #[(.ref x0), (.int (2 : Int32))] 2 = mkF m 0 #[.val (.ref x0), .val (.int (2 : Int32))] [] := by first | (simp [entryFrame, mkF, argsToLocals, Value.category]; done) | rfl
theorem ef_cal1_2 (m : MethodId) (x0 : Addr) : entryFrame m #[(.ref x0), (.int (2 : Int32))] 2 = mkF m 0 #[.val (.ref x0), .val (.int (2 : Int32))] [] := by first | (simp [entryFrame, mkF, argsToLocals, Value.category]; done) | rfl
theorem ef_cal0_3 (m : MethodId) (x0 : Addr) : entryFrame m #[(.ref x0), (.int (3 : Int32))] 2 = mkF m 0 #[.val (.ref x0), .val (.int (3 : Int32))] [] := by first | (simp [entryFrame, mkF, argsToLocals, Value.category]; done) | rfl
theorem ef_cal1_3 (m : MethodId) (x0 : Addr) : entryFrame m #[(.ref x0), (.int (3 : Int32))] 2 = mkF m 0 #[.val (.ref x0), .val (.int (3 : Int32))] [] := by first | (simp [entryFrame, mkF, argsToLocals, Value.category]; done) | rfl
theorem ef_cal0_4 (m : MethodId) (x0 : Addr) : entryFrame m #[(.ref x0), (.int (4 : Int32))] 2 = mkF m 0 #[.val (.ref x0), .val (.int (4 : Int32))] [] := by first | (simp [entryFrame, mkF, argsToLocals, Value.category]; done) | rfl
theorem ef_cal1_4 (m : MethodId) (x0 : Addr) : entryFrame m #[(.ref x0), (.int (4 : Int32))] 2 = mkF m 0 #[.val (.ref x0), .val (.int (4 : Int32))] [] := by first | (simp [entryFrame, mkF, argsToLocals, Value.category]; done) | rfl
theorem ef_cal0_5 (m : MethodId) (x0 : Addr) : entryFrame m #[(.ref x0), (.int (5 : Int32))] 2 = mkF m 0 #[.val (.ref x0), .val (.int (5 : Int32))] [] := by first | (simp [entryFrame, mkF, argsToLocals, Value.category]; done) | rfl
theorem ef_cal1_5 (m : MethodId) (x0 : Addr) : entryFrame m #[(.ref x0), (.int (5 : Int32))] 2 = mkF m 0 #[.val (.ref x0), .val (.int (5 : Int32))] [] := by first | (simp [entryFrame, mkF, argsToLocals, Value.category]; done) | rfl
theorem ef_i4_1 (m : MethodId) (x0 : Addr) (x1 : Addr) : entryFrame m #[(.ref x0), (.ref x1), (.int (0 : Int32)), (.int (1 : Int32)), .null] 6 = mkF m 0 #[.val (.ref x0), .val (.ref x1), .val (.int (0 : Int32)), .val (.int (1 : Int32)), .val .null, .unset] [] := by first | (simp [entryFrame, mkF, argsToLocals, Value.category]; done) | rfl
theorem ef_i1_1 (m : MethodId) (x0 : Addr) (x1 : Addr) : entryFrame m #[(.ref x0), (.ref x1)] 2 = mkF m 0 #[.val (.ref x0), .val (.ref x1)] [] := by first | (simp [entryFrame, mkF, argsToLocals, Value.category]; done) | rfl
theorem ef_i4_2 (m : MethodId) (x0 : Addr) (x1 : Addr) : entryFrame m #[(.ref x0), (.ref x1), (.int (0 : Int32)), (.int (2 : Int32)), .null] 6 = mkF m 0 #[.val (.ref x0), .val (.ref x1), .val (.int (0 : Int32)), .val (.int (2 : Int32)), .val .null, .unset] [] := by first | (simp [entryFrame, mkF, argsToLocals, Value.category]; done) | rfl
theorem ef_i1_2 (m : MethodId) (x0 : Addr) (x1 : Addr) : entryFrame m #[(.ref x0), (.ref x1)] 2 = mkF m 0 #[.val (.ref x0), .val (.ref x1)] [] := by first | (simp [entryFrame, mkF, argsToLocals, Value.category]; done) | rfl
theorem ef_i4_3 (m : MethodId) (x0 : Addr) (x1 : Addr) : entryFrame m #[(.ref x0), (.ref x1), (.int (0 : Int32)), (.int (3 : Int32)), .null] 6 = mkF m 0 #[.val (.ref x0), .val (.ref x1), .val (.int (0 : Int32)), .val (.int (3 : Int32)), .val .null, .unset] [] := by first | (simp [entryFrame, mkF, argsToLocals, Value.category]; done) | rfl
theorem ef_i1_3 (m : MethodId) (x0 : Addr) (x1 : Addr) : entryFrame m #[(.ref x0), (.ref x1)] 2 = mkF m 0 #[.val (.ref x0), .val (.ref x1)] [] := by first | (simp [entryFrame, mkF, argsToLocals, Value.category]; done) | rfl
theorem ef_i4_4 (m : MethodId) (x0 : Addr) (x1 : Addr) : entryFrame m #[(.ref x0), (.ref x1), (.int (0 : Int32)), (.int (4 : Int32)), .null] 6 = mkF m 0 #[.val (.ref x0), .val (.ref x1), .val (.int (0 : Int32)), .val (.int (4 : Int32)), .val .null, .unset] [] := by first | (simp [entryFrame, mkF, argsToLocals, Value.category]; done) | rfl
theorem ef_i1_4 (m : MethodId) (x0 : Addr) (x1 : Addr) : entryFrame m #[(.ref x0), (.ref x1)] 2 = mkF m 0 #[.val (.ref x0), .val (.ref x1)] [] := by first | (simp [entryFrame, mkF, argsToLocals, Value.category]; done) | rfl
theorem ef_i4_5 (m : MethodId) (x0 : Addr) (x1 : Addr) : entryFrame m #[(.ref x0), (.ref x1), (.int (0 : Int32)), (.int (5 : Int32)), .null] 6 = mkF m 0 #[.val (.ref x0), .val (.ref x1), .val (.int (0 : Int32)), .val (.int (5 : Int32)), .val .null, .unset] [] := by first | (simp [entryFrame, mkF, argsToLocals, Value.category]; done) | rfl
theorem ef_i1_5 (m : MethodId) (x0 : Addr) (x1 : Addr) : entryFrame m #[(.ref x0), (.ref x1)] 2 = mkF m 0 #[.val (.ref x0), .val (.ref x1)] [] := by first | (simp [entryFrame, mkF, argsToLocals, Value.category]; done) | rfl
theorem ef_0 (m : MethodId) (x0 : Int32) (x1 : Int32) (x2 : Int32) (x3 : Int32) (x4 : Int32) (x5 : Int32) : entryFrame m #[(.int x0), (.int x1), (.int x2), (.int x3), (.int x4), (.int x5)] maxLocals = mkF m 0 #[.val (.int x0), .val (.int x1), .val (.int x2), .val (.int x3), .val (.int x4), .val (.int x5), .unset, .unset, .unset, .unset, .unset, .unset, .unset, .unset, .unset, .unset, .unset, .unset, .unset] [] := by first | (simp [entryFrame, mkF, argsToLocals, Value.category, maxLocals]; done) | rfl
set_option maxRecDepth 65536 in
set_option maxHeartbeats 40000000 in
theorem rm9 (l : Launch) (Z : State) (a0 : Array Value) (hw : ∀ d ∈ tables_1, d.before a0 Z = true) (x0 : Int32) (h0 : Heap) :
    OwnMet l Z (⟨"com/example/uni_errors/unierrors/CorrelationHeadersIsValidIdPinLaw", "ok", "(C)Z"⟩ : MethodName) method_2_code 1 (some .boolean) [] ({ frames := 0, cells := 0, slots := 0, locals := 0 } : Room) #[(.int x0)] h0 (fun v h L => v = some (.int (own_ok x0)) ∧ L = [] ∧ h = h0) := by
  refine own_body (plainFor_of_name pn_0) (fun m => ef_9 m x0) ?_
  intro p e s m below meth c s₁ X0 hx hby hml hown hnm hret hlk hZ e0
  replace hown : s.vm.findClass "com/example/uni_errors/unierrors/CorrelationHeadersIsValidIdPinLaw" = some m.cls := hown
  replace hml : c.maxLocals = 1 := hml
  show Ends p.tables e below _ (s₁.setTop (mkF m 0 #[.val (.int x0)] []))
  have i97 : (97 : Int32).toInt = 97 := rfl
  have i122 : (122 : Int32).toInt = 122 := rfl
  have i65 : (65 : Int32).toInt = 65 := rfl
  have i90 : (90 : Int32).toInt = 90 := rfl
  have i48 : (48 : Int32).toInt = 48 := rfl
  have i57 : (57 : Int32).toInt = 57 := rfl
  have i46 : (46 : Int32).toInt = 46 := rfl
  have i95 : (95 : Int32).toInt = 95 := rfl
  have i58 : (58 : Int32).toInt = 58 := rfl
  have i45 : (45 : Int32).toInt = 45 := rfl
  show Ends p.tables e below _ (s₁.setTop (mkF m 0 #[.val (.int x0)] []))
  refine own_iloadN X0 hx hby d9_0 rfl rfl ?_
  refine own_bipush X0 hx hby d9_1 rfl (97 : Int32) rfl ?_
  refine own_icmp_lt X0 hx hby d9_3 (pcY := 14) (pcN := 6) (by decide) rfl (fun (hc1 : x0.toInt < 97) => ?_) (fun (hc1 : 97 ≤ x0.toInt) => ?_)
  · -- pc 3: t
    refine own_iloadN X0 hx hby d9_14 rfl rfl ?_
    refine own_bipush X0 hx hby d9_15 rfl (65 : Int32) rfl ?_
    refine own_icmp_lt X0 hx hby d9_17 (pcY := 28) (pcN := 20) (by decide) rfl (fun (hc2 : x0.toInt < 65) => ?_) (fun (hc2 : 65 ≤ x0.toInt) => ?_)
    · -- pc 17: t
      refine own_iloadN X0 hx hby d9_28 rfl rfl ?_
      refine own_bipush X0 hx hby d9_29 rfl (48 : Int32) rfl ?_
      refine own_icmp_lt X0 hx hby d9_31 (pcY := 42) (pcN := 34) (by decide) rfl (fun (hc3 : x0.toInt < 48) => ?_) (fun (hc3 : 48 ≤ x0.toInt) => ?_)
      · -- pc 31: t
        refine own_iloadN X0 hx hby d9_42 rfl rfl ?_
        refine own_bipush X0 hx hby d9_43 rfl (46 : Int32) rfl ?_
        refine own_icmp_eq X0 hx hby d9_45 (pcY := 66) (pcN := 48) (by decide) rfl (fun (hc4 : x0 = (46 : Int32)) => ?_) (fun (hc4 : ¬ x0 = (46 : Int32)) => ?_)
        · -- pc 45: t
          have thc4 := congrArg Int32.toInt hc4
          refine own_iconst X0 hx hby d9_66 rfl (1 : Int32) rfl ?_
          refine own_goto X0 hx hby d9_67 (pc' := 71) (by decide) ?_
          refine own_ret X0 hx hby hret hlk d9_71 (.int (1 : Int32)) rfl (Or.inl ⟨rfl, by simp, _, rfl⟩) (by decide) (by decide) ?_
          exact ⟨congrArg (fun z => some (Value.int z)) (own_ok1 (by omega)).symm, rfl, e0⟩
        · -- pc 45: f
          have thc4 := own_nti hc4
          refine own_iloadN X0 hx hby d9_48 rfl rfl ?_
          refine own_bipush X0 hx hby d9_49 rfl (95 : Int32) rfl ?_
          refine own_icmp_eq X0 hx hby d9_51 (pcY := 66) (pcN := 54) (by decide) rfl (fun (hc5 : x0 = (95 : Int32)) => ?_) (fun (hc5 : ¬ x0 = (95 : Int32)) => ?_)
          · -- pc 51: t
            have thc5 := congrArg Int32.toInt hc5
            refine own_iconst X0 hx hby d9_66 rfl (1 : Int32) rfl ?_
            refine own_goto X0 hx hby d9_67 (pc' := 71) (by decide) ?_
            refine own_ret X0 hx hby hret hlk d9_71 (.int (1 : Int32)) rfl (Or.inl ⟨rfl, by simp, _, rfl⟩) (by decide) (by decide) ?_
            exact ⟨congrArg (fun z => some (Value.int z)) (own_ok1 (by omega)).symm, rfl, e0⟩
          · -- pc 51: f
            have thc5 := own_nti hc5
            refine own_iloadN X0 hx hby d9_54 rfl rfl ?_
            refine own_bipush X0 hx hby d9_55 rfl (58 : Int32) rfl ?_
            refine own_icmp_eq X0 hx hby d9_57 (pcY := 66) (pcN := 60) (by decide) rfl (fun (hc6 : x0 = (58 : Int32)) => ?_) (fun (hc6 : ¬ x0 = (58 : Int32)) => ?_)
            · -- pc 57: t
              have thc6 := congrArg Int32.toInt hc6
              refine own_iconst X0 hx hby d9_66 rfl (1 : Int32) rfl ?_
              refine own_goto X0 hx hby d9_67 (pc' := 71) (by decide) ?_
              refine own_ret X0 hx hby hret hlk d9_71 (.int (1 : Int32)) rfl (Or.inl ⟨rfl, by simp, _, rfl⟩) (by decide) (by decide) ?_
              exact ⟨congrArg (fun z => some (Value.int z)) (own_ok1 (by omega)).symm, rfl, e0⟩
            · -- pc 57: f
              have thc6 := own_nti hc6
              refine own_iloadN X0 hx hby d9_60 rfl rfl ?_
              refine own_bipush X0 hx hby d9_61 rfl (45 : Int32) rfl ?_
              refine own_icmp_ne X0 hx hby d9_63 (pcY := 70) (pcN := 66) (by decide) rfl (fun (hc7 : ¬ x0 = (45 : Int32)) => ?_) (fun (hc7 : x0 = (45 : Int32)) => ?_)
              · -- pc 63: t
                have thc7 := own_nti hc7
                refine own_iconst X0 hx hby d9_70 rfl (0 : Int32) rfl ?_
                refine own_ret X0 hx hby hret hlk d9_71 (.int (0 : Int32)) rfl (Or.inl ⟨rfl, by simp, _, rfl⟩) (by decide) (by decide) ?_
                exact ⟨congrArg (fun z => some (Value.int z)) (own_ok0 (by omega)).symm, rfl, e0⟩
              · -- pc 63: f
                have thc7 := congrArg Int32.toInt hc7
                refine own_iconst X0 hx hby d9_66 rfl (1 : Int32) rfl ?_
                refine own_goto X0 hx hby d9_67 (pc' := 71) (by decide) ?_
                refine own_ret X0 hx hby hret hlk d9_71 (.int (1 : Int32)) rfl (Or.inl ⟨rfl, by simp, _, rfl⟩) (by decide) (by decide) ?_
                exact ⟨congrArg (fun z => some (Value.int z)) (own_ok1 (by omega)).symm, rfl, e0⟩
      · -- pc 31: f
        refine own_iloadN X0 hx hby d9_34 rfl rfl ?_
        refine own_bipush X0 hx hby d9_35 rfl (57 : Int32) rfl ?_
        refine own_icmp_gt X0 hx hby d9_37 (pcY := 42) (pcN := 40) (by decide) rfl (fun (hc8 : 57 < x0.toInt) => ?_) (fun (hc8 : x0.toInt ≤ 57) => ?_)
        · -- pc 37: t
          refine own_iloadN X0 hx hby d9_42 rfl rfl ?_
          refine own_bipush X0 hx hby d9_43 rfl (46 : Int32) rfl ?_
          refine own_icmp_eq X0 hx hby d9_45 (pcY := 66) (pcN := 48) (by decide) rfl (fun (hc9 : x0 = (46 : Int32)) => ?_) (fun (hc9 : ¬ x0 = (46 : Int32)) => ?_)
          · -- pc 45: t
            have thc9 := congrArg Int32.toInt hc9
            refine own_iconst X0 hx hby d9_66 rfl (1 : Int32) rfl ?_
            refine own_goto X0 hx hby d9_67 (pc' := 71) (by decide) ?_
            refine own_ret X0 hx hby hret hlk d9_71 (.int (1 : Int32)) rfl (Or.inl ⟨rfl, by simp, _, rfl⟩) (by decide) (by decide) ?_
            exact ⟨congrArg (fun z => some (Value.int z)) (own_ok1 (by omega)).symm, rfl, e0⟩
          · -- pc 45: f
            have thc9 := own_nti hc9
            refine own_iloadN X0 hx hby d9_48 rfl rfl ?_
            refine own_bipush X0 hx hby d9_49 rfl (95 : Int32) rfl ?_
            refine own_icmp_eq X0 hx hby d9_51 (pcY := 66) (pcN := 54) (by decide) rfl (fun (hc10 : x0 = (95 : Int32)) => ?_) (fun (hc10 : ¬ x0 = (95 : Int32)) => ?_)
            · -- pc 51: t
              have thc10 := congrArg Int32.toInt hc10
              refine own_iconst X0 hx hby d9_66 rfl (1 : Int32) rfl ?_
              refine own_goto X0 hx hby d9_67 (pc' := 71) (by decide) ?_
              refine own_ret X0 hx hby hret hlk d9_71 (.int (1 : Int32)) rfl (Or.inl ⟨rfl, by simp, _, rfl⟩) (by decide) (by decide) ?_
              exact ⟨congrArg (fun z => some (Value.int z)) (own_ok1 (by omega)).symm, rfl, e0⟩
            · -- pc 51: f
              have thc10 := own_nti hc10
              refine own_iloadN X0 hx hby d9_54 rfl rfl ?_
              refine own_bipush X0 hx hby d9_55 rfl (58 : Int32) rfl ?_
              refine own_icmp_eq X0 hx hby d9_57 (pcY := 66) (pcN := 60) (by decide) rfl (fun (hc11 : x0 = (58 : Int32)) => ?_) (fun (hc11 : ¬ x0 = (58 : Int32)) => ?_)
              · -- pc 57: t
                have thc11 := congrArg Int32.toInt hc11
                refine own_iconst X0 hx hby d9_66 rfl (1 : Int32) rfl ?_
                refine own_goto X0 hx hby d9_67 (pc' := 71) (by decide) ?_
                refine own_ret X0 hx hby hret hlk d9_71 (.int (1 : Int32)) rfl (Or.inl ⟨rfl, by simp, _, rfl⟩) (by decide) (by decide) ?_
                exact ⟨congrArg (fun z => some (Value.int z)) (own_ok1 (by omega)).symm, rfl, e0⟩
              · -- pc 57: f
                have thc11 := own_nti hc11
                refine own_iloadN X0 hx hby d9_60 rfl rfl ?_
                refine own_bipush X0 hx hby d9_61 rfl (45 : Int32) rfl ?_
                refine own_icmp_ne X0 hx hby d9_63 (pcY := 70) (pcN := 66) (by decide) rfl (fun (hc12 : ¬ x0 = (45 : Int32)) => ?_) (fun (hc12 : x0 = (45 : Int32)) => ?_)
                · -- pc 63: t
                  have thc12 := own_nti hc12
                  refine own_iconst X0 hx hby d9_70 rfl (0 : Int32) rfl ?_
                  refine own_ret X0 hx hby hret hlk d9_71 (.int (0 : Int32)) rfl (Or.inl ⟨rfl, by simp, _, rfl⟩) (by decide) (by decide) ?_
                  exact ⟨congrArg (fun z => some (Value.int z)) (own_ok0 (by omega)).symm, rfl, e0⟩
                · -- pc 63: f
                  have thc12 := congrArg Int32.toInt hc12
                  refine own_iconst X0 hx hby d9_66 rfl (1 : Int32) rfl ?_
                  refine own_goto X0 hx hby d9_67 (pc' := 71) (by decide) ?_
                  refine own_ret X0 hx hby hret hlk d9_71 (.int (1 : Int32)) rfl (Or.inl ⟨rfl, by simp, _, rfl⟩) (by decide) (by decide) ?_
                  exact ⟨congrArg (fun z => some (Value.int z)) (own_ok1 (by omega)).symm, rfl, e0⟩
        · -- pc 37: f
          refine own_iconst X0 hx hby d9_40 rfl (1 : Int32) rfl ?_
          refine own_ret X0 hx hby hret hlk d9_41 (.int (1 : Int32)) rfl (Or.inl ⟨rfl, by simp, _, rfl⟩) (by decide) (by decide) ?_
          exact ⟨congrArg (fun z => some (Value.int z)) (own_ok1 (by omega)).symm, rfl, e0⟩
    · -- pc 17: f
      refine own_iloadN X0 hx hby d9_20 rfl rfl ?_
      refine own_bipush X0 hx hby d9_21 rfl (90 : Int32) rfl ?_
      refine own_icmp_gt X0 hx hby d9_23 (pcY := 28) (pcN := 26) (by decide) rfl (fun (hc13 : 90 < x0.toInt) => ?_) (fun (hc13 : x0.toInt ≤ 90) => ?_)
      · -- pc 23: t
        refine own_iloadN X0 hx hby d9_28 rfl rfl ?_
        refine own_bipush X0 hx hby d9_29 rfl (48 : Int32) rfl ?_
        refine own_icmp_lt X0 hx hby d9_31 (pcY := 42) (pcN := 34) (by decide) rfl (fun (hc14 : x0.toInt < 48) => ?_) (fun (hc14 : 48 ≤ x0.toInt) => ?_)
        · -- pc 31: t
          refine own_iloadN X0 hx hby d9_42 rfl rfl ?_
          refine own_bipush X0 hx hby d9_43 rfl (46 : Int32) rfl ?_
          refine own_icmp_eq X0 hx hby d9_45 (pcY := 66) (pcN := 48) (by decide) rfl (fun (hc15 : x0 = (46 : Int32)) => ?_) (fun (hc15 : ¬ x0 = (46 : Int32)) => ?_)
          · -- pc 45: t
            have thc15 := congrArg Int32.toInt hc15
            refine own_iconst X0 hx hby d9_66 rfl (1 : Int32) rfl ?_
            refine own_goto X0 hx hby d9_67 (pc' := 71) (by decide) ?_
            refine own_ret X0 hx hby hret hlk d9_71 (.int (1 : Int32)) rfl (Or.inl ⟨rfl, by simp, _, rfl⟩) (by decide) (by decide) ?_
            exact ⟨congrArg (fun z => some (Value.int z)) (own_ok1 (by omega)).symm, rfl, e0⟩
          · -- pc 45: f
            have thc15 := own_nti hc15
            refine own_iloadN X0 hx hby d9_48 rfl rfl ?_
            refine own_bipush X0 hx hby d9_49 rfl (95 : Int32) rfl ?_
            refine own_icmp_eq X0 hx hby d9_51 (pcY := 66) (pcN := 54) (by decide) rfl (fun (hc16 : x0 = (95 : Int32)) => ?_) (fun (hc16 : ¬ x0 = (95 : Int32)) => ?_)
            · -- pc 51: t
              have thc16 := congrArg Int32.toInt hc16
              refine own_iconst X0 hx hby d9_66 rfl (1 : Int32) rfl ?_
              refine own_goto X0 hx hby d9_67 (pc' := 71) (by decide) ?_
              refine own_ret X0 hx hby hret hlk d9_71 (.int (1 : Int32)) rfl (Or.inl ⟨rfl, by simp, _, rfl⟩) (by decide) (by decide) ?_
              exact ⟨congrArg (fun z => some (Value.int z)) (own_ok1 (by omega)).symm, rfl, e0⟩
            · -- pc 51: f
              have thc16 := own_nti hc16
              refine own_iloadN X0 hx hby d9_54 rfl rfl ?_
              refine own_bipush X0 hx hby d9_55 rfl (58 : Int32) rfl ?_
              refine own_icmp_eq X0 hx hby d9_57 (pcY := 66) (pcN := 60) (by decide) rfl (fun (hc17 : x0 = (58 : Int32)) => ?_) (fun (hc17 : ¬ x0 = (58 : Int32)) => ?_)
              · -- pc 57: t
                have thc17 := congrArg Int32.toInt hc17
                refine own_iconst X0 hx hby d9_66 rfl (1 : Int32) rfl ?_
                refine own_goto X0 hx hby d9_67 (pc' := 71) (by decide) ?_
                refine own_ret X0 hx hby hret hlk d9_71 (.int (1 : Int32)) rfl (Or.inl ⟨rfl, by simp, _, rfl⟩) (by decide) (by decide) ?_
                exact ⟨congrArg (fun z => some (Value.int z)) (own_ok1 (by omega)).symm, rfl, e0⟩
              · -- pc 57: f
                have thc17 := own_nti hc17
                refine own_iloadN X0 hx hby d9_60 rfl rfl ?_
                refine own_bipush X0 hx hby d9_61 rfl (45 : Int32) rfl ?_
                refine own_icmp_ne X0 hx hby d9_63 (pcY := 70) (pcN := 66) (by decide) rfl (fun (hc18 : ¬ x0 = (45 : Int32)) => ?_) (fun (hc18 : x0 = (45 : Int32)) => ?_)
                · -- pc 63: t
                  have thc18 := own_nti hc18
                  refine own_iconst X0 hx hby d9_70 rfl (0 : Int32) rfl ?_
                  refine own_ret X0 hx hby hret hlk d9_71 (.int (0 : Int32)) rfl (Or.inl ⟨rfl, by simp, _, rfl⟩) (by decide) (by decide) ?_
                  exact ⟨congrArg (fun z => some (Value.int z)) (own_ok0 (by omega)).symm, rfl, e0⟩
                · -- pc 63: f
                  have thc18 := congrArg Int32.toInt hc18
                  refine own_iconst X0 hx hby d9_66 rfl (1 : Int32) rfl ?_
                  refine own_goto X0 hx hby d9_67 (pc' := 71) (by decide) ?_
                  refine own_ret X0 hx hby hret hlk d9_71 (.int (1 : Int32)) rfl (Or.inl ⟨rfl, by simp, _, rfl⟩) (by decide) (by decide) ?_
                  exact ⟨congrArg (fun z => some (Value.int z)) (own_ok1 (by omega)).symm, rfl, e0⟩
        · -- pc 31: f
          refine own_iloadN X0 hx hby d9_34 rfl rfl ?_
          refine own_bipush X0 hx hby d9_35 rfl (57 : Int32) rfl ?_
          refine own_icmp_gt X0 hx hby d9_37 (pcY := 42) (pcN := 40) (by decide) rfl (fun (hc19 : 57 < x0.toInt) => ?_) (fun (hc19 : x0.toInt ≤ 57) => ?_)
          · -- pc 37: t
            refine own_iloadN X0 hx hby d9_42 rfl rfl ?_
            refine own_bipush X0 hx hby d9_43 rfl (46 : Int32) rfl ?_
            refine own_icmp_eq X0 hx hby d9_45 (pcY := 66) (pcN := 48) (by decide) rfl (fun (hc20 : x0 = (46 : Int32)) => ?_) (fun (hc20 : ¬ x0 = (46 : Int32)) => ?_)
            · -- pc 45: t
              have thc20 := congrArg Int32.toInt hc20
              refine own_iconst X0 hx hby d9_66 rfl (1 : Int32) rfl ?_
              refine own_goto X0 hx hby d9_67 (pc' := 71) (by decide) ?_
              refine own_ret X0 hx hby hret hlk d9_71 (.int (1 : Int32)) rfl (Or.inl ⟨rfl, by simp, _, rfl⟩) (by decide) (by decide) ?_
              exact ⟨congrArg (fun z => some (Value.int z)) (own_ok1 (by omega)).symm, rfl, e0⟩
            · -- pc 45: f
              have thc20 := own_nti hc20
              refine own_iloadN X0 hx hby d9_48 rfl rfl ?_
              refine own_bipush X0 hx hby d9_49 rfl (95 : Int32) rfl ?_
              refine own_icmp_eq X0 hx hby d9_51 (pcY := 66) (pcN := 54) (by decide) rfl (fun (hc21 : x0 = (95 : Int32)) => ?_) (fun (hc21 : ¬ x0 = (95 : Int32)) => ?_)
              · -- pc 51: t
                have thc21 := congrArg Int32.toInt hc21
                refine own_iconst X0 hx hby d9_66 rfl (1 : Int32) rfl ?_
                refine own_goto X0 hx hby d9_67 (pc' := 71) (by decide) ?_
                refine own_ret X0 hx hby hret hlk d9_71 (.int (1 : Int32)) rfl (Or.inl ⟨rfl, by simp, _, rfl⟩) (by decide) (by decide) ?_
                exact ⟨congrArg (fun z => some (Value.int z)) (own_ok1 (by omega)).symm, rfl, e0⟩
              · -- pc 51: f
                have thc21 := own_nti hc21
                refine own_iloadN X0 hx hby d9_54 rfl rfl ?_
                refine own_bipush X0 hx hby d9_55 rfl (58 : Int32) rfl ?_
                refine own_icmp_eq X0 hx hby d9_57 (pcY := 66) (pcN := 60) (by decide) rfl (fun (hc22 : x0 = (58 : Int32)) => ?_) (fun (hc22 : ¬ x0 = (58 : Int32)) => ?_)
                · -- pc 57: t
                  have thc22 := congrArg Int32.toInt hc22
                  refine own_iconst X0 hx hby d9_66 rfl (1 : Int32) rfl ?_
                  refine own_goto X0 hx hby d9_67 (pc' := 71) (by decide) ?_
                  refine own_ret X0 hx hby hret hlk d9_71 (.int (1 : Int32)) rfl (Or.inl ⟨rfl, by simp, _, rfl⟩) (by decide) (by decide) ?_
                  exact ⟨congrArg (fun z => some (Value.int z)) (own_ok1 (by omega)).symm, rfl, e0⟩
                · -- pc 57: f
                  have thc22 := own_nti hc22
                  refine own_iloadN X0 hx hby d9_60 rfl rfl ?_
                  refine own_bipush X0 hx hby d9_61 rfl (45 : Int32) rfl ?_
                  refine own_icmp_ne X0 hx hby d9_63 (pcY := 70) (pcN := 66) (by decide) rfl (fun (hc23 : ¬ x0 = (45 : Int32)) => ?_) (fun (hc23 : x0 = (45 : Int32)) => ?_)
                  · -- pc 63: t
                    have thc23 := own_nti hc23
                    refine own_iconst X0 hx hby d9_70 rfl (0 : Int32) rfl ?_
                    refine own_ret X0 hx hby hret hlk d9_71 (.int (0 : Int32)) rfl (Or.inl ⟨rfl, by simp, _, rfl⟩) (by decide) (by decide) ?_
                    exact ⟨congrArg (fun z => some (Value.int z)) (own_ok0 (by omega)).symm, rfl, e0⟩
                  · -- pc 63: f
                    have thc23 := congrArg Int32.toInt hc23
                    refine own_iconst X0 hx hby d9_66 rfl (1 : Int32) rfl ?_
                    refine own_goto X0 hx hby d9_67 (pc' := 71) (by decide) ?_
                    refine own_ret X0 hx hby hret hlk d9_71 (.int (1 : Int32)) rfl (Or.inl ⟨rfl, by simp, _, rfl⟩) (by decide) (by decide) ?_
                    exact ⟨congrArg (fun z => some (Value.int z)) (own_ok1 (by omega)).symm, rfl, e0⟩
          · -- pc 37: f
            refine own_iconst X0 hx hby d9_40 rfl (1 : Int32) rfl ?_
            refine own_ret X0 hx hby hret hlk d9_41 (.int (1 : Int32)) rfl (Or.inl ⟨rfl, by simp, _, rfl⟩) (by decide) (by decide) ?_
            exact ⟨congrArg (fun z => some (Value.int z)) (own_ok1 (by omega)).symm, rfl, e0⟩
      · -- pc 23: f
        refine own_iconst X0 hx hby d9_26 rfl (1 : Int32) rfl ?_
        refine own_ret X0 hx hby hret hlk d9_27 (.int (1 : Int32)) rfl (Or.inl ⟨rfl, by simp, _, rfl⟩) (by decide) (by decide) ?_
        exact ⟨congrArg (fun z => some (Value.int z)) (own_ok1 (by omega)).symm, rfl, e0⟩
  · -- pc 3: f
    refine own_iloadN X0 hx hby d9_6 rfl rfl ?_
    refine own_bipush X0 hx hby d9_7 rfl (122 : Int32) rfl ?_
    refine own_icmp_gt X0 hx hby d9_9 (pcY := 14) (pcN := 12) (by decide) rfl (fun (hc24 : 122 < x0.toInt) => ?_) (fun (hc24 : x0.toInt ≤ 122) => ?_)
    · -- pc 9: t
      refine own_iloadN X0 hx hby d9_14 rfl rfl ?_
      refine own_bipush X0 hx hby d9_15 rfl (65 : Int32) rfl ?_
      refine own_icmp_lt X0 hx hby d9_17 (pcY := 28) (pcN := 20) (by decide) rfl (fun (hc25 : x0.toInt < 65) => ?_) (fun (hc25 : 65 ≤ x0.toInt) => ?_)
      · -- pc 17: t
        refine own_iloadN X0 hx hby d9_28 rfl rfl ?_
        refine own_bipush X0 hx hby d9_29 rfl (48 : Int32) rfl ?_
        refine own_icmp_lt X0 hx hby d9_31 (pcY := 42) (pcN := 34) (by decide) rfl (fun (hc26 : x0.toInt < 48) => ?_) (fun (hc26 : 48 ≤ x0.toInt) => ?_)
        · -- pc 31: t
          refine own_iloadN X0 hx hby d9_42 rfl rfl ?_
          refine own_bipush X0 hx hby d9_43 rfl (46 : Int32) rfl ?_
          refine own_icmp_eq X0 hx hby d9_45 (pcY := 66) (pcN := 48) (by decide) rfl (fun (hc27 : x0 = (46 : Int32)) => ?_) (fun (hc27 : ¬ x0 = (46 : Int32)) => ?_)
          · -- pc 45: t
            have thc27 := congrArg Int32.toInt hc27
            refine own_iconst X0 hx hby d9_66 rfl (1 : Int32) rfl ?_
            refine own_goto X0 hx hby d9_67 (pc' := 71) (by decide) ?_
            refine own_ret X0 hx hby hret hlk d9_71 (.int (1 : Int32)) rfl (Or.inl ⟨rfl, by simp, _, rfl⟩) (by decide) (by decide) ?_
            exact ⟨congrArg (fun z => some (Value.int z)) (own_ok1 (by omega)).symm, rfl, e0⟩
          · -- pc 45: f
            have thc27 := own_nti hc27
            refine own_iloadN X0 hx hby d9_48 rfl rfl ?_
            refine own_bipush X0 hx hby d9_49 rfl (95 : Int32) rfl ?_
            refine own_icmp_eq X0 hx hby d9_51 (pcY := 66) (pcN := 54) (by decide) rfl (fun (hc28 : x0 = (95 : Int32)) => ?_) (fun (hc28 : ¬ x0 = (95 : Int32)) => ?_)
            · -- pc 51: t
              have thc28 := congrArg Int32.toInt hc28
              refine own_iconst X0 hx hby d9_66 rfl (1 : Int32) rfl ?_
              refine own_goto X0 hx hby d9_67 (pc' := 71) (by decide) ?_
              refine own_ret X0 hx hby hret hlk d9_71 (.int (1 : Int32)) rfl (Or.inl ⟨rfl, by simp, _, rfl⟩) (by decide) (by decide) ?_
              exact ⟨congrArg (fun z => some (Value.int z)) (own_ok1 (by omega)).symm, rfl, e0⟩
            · -- pc 51: f
              have thc28 := own_nti hc28
              refine own_iloadN X0 hx hby d9_54 rfl rfl ?_
              refine own_bipush X0 hx hby d9_55 rfl (58 : Int32) rfl ?_
              refine own_icmp_eq X0 hx hby d9_57 (pcY := 66) (pcN := 60) (by decide) rfl (fun (hc29 : x0 = (58 : Int32)) => ?_) (fun (hc29 : ¬ x0 = (58 : Int32)) => ?_)
              · -- pc 57: t
                have thc29 := congrArg Int32.toInt hc29
                refine own_iconst X0 hx hby d9_66 rfl (1 : Int32) rfl ?_
                refine own_goto X0 hx hby d9_67 (pc' := 71) (by decide) ?_
                refine own_ret X0 hx hby hret hlk d9_71 (.int (1 : Int32)) rfl (Or.inl ⟨rfl, by simp, _, rfl⟩) (by decide) (by decide) ?_
                exact ⟨congrArg (fun z => some (Value.int z)) (own_ok1 (by omega)).symm, rfl, e0⟩
              · -- pc 57: f
                have thc29 := own_nti hc29
                refine own_iloadN X0 hx hby d9_60 rfl rfl ?_
                refine own_bipush X0 hx hby d9_61 rfl (45 : Int32) rfl ?_
                refine own_icmp_ne X0 hx hby d9_63 (pcY := 70) (pcN := 66) (by decide) rfl (fun (hc30 : ¬ x0 = (45 : Int32)) => ?_) (fun (hc30 : x0 = (45 : Int32)) => ?_)
                · -- pc 63: t
                  have thc30 := own_nti hc30
                  refine own_iconst X0 hx hby d9_70 rfl (0 : Int32) rfl ?_
                  refine own_ret X0 hx hby hret hlk d9_71 (.int (0 : Int32)) rfl (Or.inl ⟨rfl, by simp, _, rfl⟩) (by decide) (by decide) ?_
                  exact ⟨congrArg (fun z => some (Value.int z)) (own_ok0 (by omega)).symm, rfl, e0⟩
                · -- pc 63: f
                  have thc30 := congrArg Int32.toInt hc30
                  refine own_iconst X0 hx hby d9_66 rfl (1 : Int32) rfl ?_
                  refine own_goto X0 hx hby d9_67 (pc' := 71) (by decide) ?_
                  refine own_ret X0 hx hby hret hlk d9_71 (.int (1 : Int32)) rfl (Or.inl ⟨rfl, by simp, _, rfl⟩) (by decide) (by decide) ?_
                  exact ⟨congrArg (fun z => some (Value.int z)) (own_ok1 (by omega)).symm, rfl, e0⟩
        · -- pc 31: f
          refine own_iloadN X0 hx hby d9_34 rfl rfl ?_
          refine own_bipush X0 hx hby d9_35 rfl (57 : Int32) rfl ?_
          refine own_icmp_gt X0 hx hby d9_37 (pcY := 42) (pcN := 40) (by decide) rfl (fun (hc31 : 57 < x0.toInt) => ?_) (fun (hc31 : x0.toInt ≤ 57) => ?_)
          · -- pc 37: t
            refine own_iloadN X0 hx hby d9_42 rfl rfl ?_
            refine own_bipush X0 hx hby d9_43 rfl (46 : Int32) rfl ?_
            refine own_icmp_eq X0 hx hby d9_45 (pcY := 66) (pcN := 48) (by decide) rfl (fun (hc32 : x0 = (46 : Int32)) => ?_) (fun (hc32 : ¬ x0 = (46 : Int32)) => ?_)
            · -- pc 45: t
              have thc32 := congrArg Int32.toInt hc32
              refine own_iconst X0 hx hby d9_66 rfl (1 : Int32) rfl ?_
              refine own_goto X0 hx hby d9_67 (pc' := 71) (by decide) ?_
              refine own_ret X0 hx hby hret hlk d9_71 (.int (1 : Int32)) rfl (Or.inl ⟨rfl, by simp, _, rfl⟩) (by decide) (by decide) ?_
              exact ⟨congrArg (fun z => some (Value.int z)) (own_ok1 (by omega)).symm, rfl, e0⟩
            · -- pc 45: f
              have thc32 := own_nti hc32
              refine own_iloadN X0 hx hby d9_48 rfl rfl ?_
              refine own_bipush X0 hx hby d9_49 rfl (95 : Int32) rfl ?_
              refine own_icmp_eq X0 hx hby d9_51 (pcY := 66) (pcN := 54) (by decide) rfl (fun (hc33 : x0 = (95 : Int32)) => ?_) (fun (hc33 : ¬ x0 = (95 : Int32)) => ?_)
              · -- pc 51: t
                have thc33 := congrArg Int32.toInt hc33
                refine own_iconst X0 hx hby d9_66 rfl (1 : Int32) rfl ?_
                refine own_goto X0 hx hby d9_67 (pc' := 71) (by decide) ?_
                refine own_ret X0 hx hby hret hlk d9_71 (.int (1 : Int32)) rfl (Or.inl ⟨rfl, by simp, _, rfl⟩) (by decide) (by decide) ?_
                exact ⟨congrArg (fun z => some (Value.int z)) (own_ok1 (by omega)).symm, rfl, e0⟩
              · -- pc 51: f
                have thc33 := own_nti hc33
                refine own_iloadN X0 hx hby d9_54 rfl rfl ?_
                refine own_bipush X0 hx hby d9_55 rfl (58 : Int32) rfl ?_
                refine own_icmp_eq X0 hx hby d9_57 (pcY := 66) (pcN := 60) (by decide) rfl (fun (hc34 : x0 = (58 : Int32)) => ?_) (fun (hc34 : ¬ x0 = (58 : Int32)) => ?_)
                · -- pc 57: t
                  have thc34 := congrArg Int32.toInt hc34
                  refine own_iconst X0 hx hby d9_66 rfl (1 : Int32) rfl ?_
                  refine own_goto X0 hx hby d9_67 (pc' := 71) (by decide) ?_
                  refine own_ret X0 hx hby hret hlk d9_71 (.int (1 : Int32)) rfl (Or.inl ⟨rfl, by simp, _, rfl⟩) (by decide) (by decide) ?_
                  exact ⟨congrArg (fun z => some (Value.int z)) (own_ok1 (by omega)).symm, rfl, e0⟩
                · -- pc 57: f
                  have thc34 := own_nti hc34
                  refine own_iloadN X0 hx hby d9_60 rfl rfl ?_
                  refine own_bipush X0 hx hby d9_61 rfl (45 : Int32) rfl ?_
                  refine own_icmp_ne X0 hx hby d9_63 (pcY := 70) (pcN := 66) (by decide) rfl (fun (hc35 : ¬ x0 = (45 : Int32)) => ?_) (fun (hc35 : x0 = (45 : Int32)) => ?_)
                  · -- pc 63: t
                    have thc35 := own_nti hc35
                    refine own_iconst X0 hx hby d9_70 rfl (0 : Int32) rfl ?_
                    refine own_ret X0 hx hby hret hlk d9_71 (.int (0 : Int32)) rfl (Or.inl ⟨rfl, by simp, _, rfl⟩) (by decide) (by decide) ?_
                    exact ⟨congrArg (fun z => some (Value.int z)) (own_ok0 (by omega)).symm, rfl, e0⟩
                  · -- pc 63: f
                    have thc35 := congrArg Int32.toInt hc35
                    refine own_iconst X0 hx hby d9_66 rfl (1 : Int32) rfl ?_
                    refine own_goto X0 hx hby d9_67 (pc' := 71) (by decide) ?_
                    refine own_ret X0 hx hby hret hlk d9_71 (.int (1 : Int32)) rfl (Or.inl ⟨rfl, by simp, _, rfl⟩) (by decide) (by decide) ?_
                    exact ⟨congrArg (fun z => some (Value.int z)) (own_ok1 (by omega)).symm, rfl, e0⟩
          · -- pc 37: f
            refine own_iconst X0 hx hby d9_40 rfl (1 : Int32) rfl ?_
            refine own_ret X0 hx hby hret hlk d9_41 (.int (1 : Int32)) rfl (Or.inl ⟨rfl, by simp, _, rfl⟩) (by decide) (by decide) ?_
            exact ⟨congrArg (fun z => some (Value.int z)) (own_ok1 (by omega)).symm, rfl, e0⟩
      · -- pc 17: f
        refine own_iloadN X0 hx hby d9_20 rfl rfl ?_
        refine own_bipush X0 hx hby d9_21 rfl (90 : Int32) rfl ?_
        refine own_icmp_gt X0 hx hby d9_23 (pcY := 28) (pcN := 26) (by decide) rfl (fun (hc36 : 90 < x0.toInt) => ?_) (fun (hc36 : x0.toInt ≤ 90) => ?_)
        · -- pc 23: t
          refine own_iloadN X0 hx hby d9_28 rfl rfl ?_
          refine own_bipush X0 hx hby d9_29 rfl (48 : Int32) rfl ?_
          refine own_icmp_lt X0 hx hby d9_31 (pcY := 42) (pcN := 34) (by decide) rfl (fun (hc37 : x0.toInt < 48) => ?_) (fun (hc37 : 48 ≤ x0.toInt) => ?_)
          · -- pc 31: t
            refine own_iloadN X0 hx hby d9_42 rfl rfl ?_
            refine own_bipush X0 hx hby d9_43 rfl (46 : Int32) rfl ?_
            refine own_icmp_eq X0 hx hby d9_45 (pcY := 66) (pcN := 48) (by decide) rfl (fun (hc38 : x0 = (46 : Int32)) => ?_) (fun (hc38 : ¬ x0 = (46 : Int32)) => ?_)
            · -- pc 45: t
              have thc38 := congrArg Int32.toInt hc38
              refine own_iconst X0 hx hby d9_66 rfl (1 : Int32) rfl ?_
              refine own_goto X0 hx hby d9_67 (pc' := 71) (by decide) ?_
              refine own_ret X0 hx hby hret hlk d9_71 (.int (1 : Int32)) rfl (Or.inl ⟨rfl, by simp, _, rfl⟩) (by decide) (by decide) ?_
              exact ⟨congrArg (fun z => some (Value.int z)) (own_ok1 (by omega)).symm, rfl, e0⟩
            · -- pc 45: f
              have thc38 := own_nti hc38
              refine own_iloadN X0 hx hby d9_48 rfl rfl ?_
              refine own_bipush X0 hx hby d9_49 rfl (95 : Int32) rfl ?_
              refine own_icmp_eq X0 hx hby d9_51 (pcY := 66) (pcN := 54) (by decide) rfl (fun (hc39 : x0 = (95 : Int32)) => ?_) (fun (hc39 : ¬ x0 = (95 : Int32)) => ?_)
              · -- pc 51: t
                have thc39 := congrArg Int32.toInt hc39
                refine own_iconst X0 hx hby d9_66 rfl (1 : Int32) rfl ?_
                refine own_goto X0 hx hby d9_67 (pc' := 71) (by decide) ?_
                refine own_ret X0 hx hby hret hlk d9_71 (.int (1 : Int32)) rfl (Or.inl ⟨rfl, by simp, _, rfl⟩) (by decide) (by decide) ?_
                exact ⟨congrArg (fun z => some (Value.int z)) (own_ok1 (by omega)).symm, rfl, e0⟩
              · -- pc 51: f
                have thc39 := own_nti hc39
                refine own_iloadN X0 hx hby d9_54 rfl rfl ?_
                refine own_bipush X0 hx hby d9_55 rfl (58 : Int32) rfl ?_
                refine own_icmp_eq X0 hx hby d9_57 (pcY := 66) (pcN := 60) (by decide) rfl (fun (hc40 : x0 = (58 : Int32)) => ?_) (fun (hc40 : ¬ x0 = (58 : Int32)) => ?_)
                · -- pc 57: t
                  have thc40 := congrArg Int32.toInt hc40
                  refine own_iconst X0 hx hby d9_66 rfl (1 : Int32) rfl ?_
                  refine own_goto X0 hx hby d9_67 (pc' := 71) (by decide) ?_
                  refine own_ret X0 hx hby hret hlk d9_71 (.int (1 : Int32)) rfl (Or.inl ⟨rfl, by simp, _, rfl⟩) (by decide) (by decide) ?_
                  exact ⟨congrArg (fun z => some (Value.int z)) (own_ok1 (by omega)).symm, rfl, e0⟩
                · -- pc 57: f
                  have thc40 := own_nti hc40
                  refine own_iloadN X0 hx hby d9_60 rfl rfl ?_
                  refine own_bipush X0 hx hby d9_61 rfl (45 : Int32) rfl ?_
                  refine own_icmp_ne X0 hx hby d9_63 (pcY := 70) (pcN := 66) (by decide) rfl (fun (hc41 : ¬ x0 = (45 : Int32)) => ?_) (fun (hc41 : x0 = (45 : Int32)) => ?_)
                  · -- pc 63: t
                    have thc41 := own_nti hc41
                    refine own_iconst X0 hx hby d9_70 rfl (0 : Int32) rfl ?_
                    refine own_ret X0 hx hby hret hlk d9_71 (.int (0 : Int32)) rfl (Or.inl ⟨rfl, by simp, _, rfl⟩) (by decide) (by decide) ?_
                    exact ⟨congrArg (fun z => some (Value.int z)) (own_ok0 (by omega)).symm, rfl, e0⟩
                  · -- pc 63: f
                    have thc41 := congrArg Int32.toInt hc41
                    refine own_iconst X0 hx hby d9_66 rfl (1 : Int32) rfl ?_
                    refine own_goto X0 hx hby d9_67 (pc' := 71) (by decide) ?_
                    refine own_ret X0 hx hby hret hlk d9_71 (.int (1 : Int32)) rfl (Or.inl ⟨rfl, by simp, _, rfl⟩) (by decide) (by decide) ?_
                    exact ⟨congrArg (fun z => some (Value.int z)) (own_ok1 (by omega)).symm, rfl, e0⟩
          · -- pc 31: f
            refine own_iloadN X0 hx hby d9_34 rfl rfl ?_
            refine own_bipush X0 hx hby d9_35 rfl (57 : Int32) rfl ?_
            refine own_icmp_gt X0 hx hby d9_37 (pcY := 42) (pcN := 40) (by decide) rfl (fun (hc42 : 57 < x0.toInt) => ?_) (fun (hc42 : x0.toInt ≤ 57) => ?_)
            · -- pc 37: t
              refine own_iloadN X0 hx hby d9_42 rfl rfl ?_
              refine own_bipush X0 hx hby d9_43 rfl (46 : Int32) rfl ?_
              refine own_icmp_eq X0 hx hby d9_45 (pcY := 66) (pcN := 48) (by decide) rfl (fun (hc43 : x0 = (46 : Int32)) => ?_) (fun (hc43 : ¬ x0 = (46 : Int32)) => ?_)
              · -- pc 45: t
                have thc43 := congrArg Int32.toInt hc43
                refine own_iconst X0 hx hby d9_66 rfl (1 : Int32) rfl ?_
                refine own_goto X0 hx hby d9_67 (pc' := 71) (by decide) ?_
                refine own_ret X0 hx hby hret hlk d9_71 (.int (1 : Int32)) rfl (Or.inl ⟨rfl, by simp, _, rfl⟩) (by decide) (by decide) ?_
                exact ⟨congrArg (fun z => some (Value.int z)) (own_ok1 (by omega)).symm, rfl, e0⟩
              · -- pc 45: f
                have thc43 := own_nti hc43
                refine own_iloadN X0 hx hby d9_48 rfl rfl ?_
                refine own_bipush X0 hx hby d9_49 rfl (95 : Int32) rfl ?_
                refine own_icmp_eq X0 hx hby d9_51 (pcY := 66) (pcN := 54) (by decide) rfl (fun (hc44 : x0 = (95 : Int32)) => ?_) (fun (hc44 : ¬ x0 = (95 : Int32)) => ?_)
                · -- pc 51: t
                  have thc44 := congrArg Int32.toInt hc44
                  refine own_iconst X0 hx hby d9_66 rfl (1 : Int32) rfl ?_
                  refine own_goto X0 hx hby d9_67 (pc' := 71) (by decide) ?_
                  refine own_ret X0 hx hby hret hlk d9_71 (.int (1 : Int32)) rfl (Or.inl ⟨rfl, by simp, _, rfl⟩) (by decide) (by decide) ?_
                  exact ⟨congrArg (fun z => some (Value.int z)) (own_ok1 (by omega)).symm, rfl, e0⟩
                · -- pc 51: f
                  have thc44 := own_nti hc44
                  refine own_iloadN X0 hx hby d9_54 rfl rfl ?_
                  refine own_bipush X0 hx hby d9_55 rfl (58 : Int32) rfl ?_
                  refine own_icmp_eq X0 hx hby d9_57 (pcY := 66) (pcN := 60) (by decide) rfl (fun (hc45 : x0 = (58 : Int32)) => ?_) (fun (hc45 : ¬ x0 = (58 : Int32)) => ?_)
                  · -- pc 57: t
                    have thc45 := congrArg Int32.toInt hc45
                    refine own_iconst X0 hx hby d9_66 rfl (1 : Int32) rfl ?_
                    refine own_goto X0 hx hby d9_67 (pc' := 71) (by decide) ?_
                    refine own_ret X0 hx hby hret hlk d9_71 (.int (1 : Int32)) rfl (Or.inl ⟨rfl, by simp, _, rfl⟩) (by decide) (by decide) ?_
                    exact ⟨congrArg (fun z => some (Value.int z)) (own_ok1 (by omega)).symm, rfl, e0⟩
                  · -- pc 57: f
                    have thc45 := own_nti hc45
                    refine own_iloadN X0 hx hby d9_60 rfl rfl ?_
                    refine own_bipush X0 hx hby d9_61 rfl (45 : Int32) rfl ?_
                    refine own_icmp_ne X0 hx hby d9_63 (pcY := 70) (pcN := 66) (by decide) rfl (fun (hc46 : ¬ x0 = (45 : Int32)) => ?_) (fun (hc46 : x0 = (45 : Int32)) => ?_)
                    · -- pc 63: t
                      have thc46 := own_nti hc46
                      refine own_iconst X0 hx hby d9_70 rfl (0 : Int32) rfl ?_
                      refine own_ret X0 hx hby hret hlk d9_71 (.int (0 : Int32)) rfl (Or.inl ⟨rfl, by simp, _, rfl⟩) (by decide) (by decide) ?_
                      exact ⟨congrArg (fun z => some (Value.int z)) (own_ok0 (by omega)).symm, rfl, e0⟩
                    · -- pc 63: f
                      have thc46 := congrArg Int32.toInt hc46
                      refine own_iconst X0 hx hby d9_66 rfl (1 : Int32) rfl ?_
                      refine own_goto X0 hx hby d9_67 (pc' := 71) (by decide) ?_
                      refine own_ret X0 hx hby hret hlk d9_71 (.int (1 : Int32)) rfl (Or.inl ⟨rfl, by simp, _, rfl⟩) (by decide) (by decide) ?_
                      exact ⟨congrArg (fun z => some (Value.int z)) (own_ok1 (by omega)).symm, rfl, e0⟩
            · -- pc 37: f
              refine own_iconst X0 hx hby d9_40 rfl (1 : Int32) rfl ?_
              refine own_ret X0 hx hby hret hlk d9_41 (.int (1 : Int32)) rfl (Or.inl ⟨rfl, by simp, _, rfl⟩) (by decide) (by decide) ?_
              exact ⟨congrArg (fun z => some (Value.int z)) (own_ok1 (by omega)).symm, rfl, e0⟩
        · -- pc 23: f
          refine own_iconst X0 hx hby d9_26 rfl (1 : Int32) rfl ?_
          refine own_ret X0 hx hby hret hlk d9_27 (.int (1 : Int32)) rfl (Or.inl ⟨rfl, by simp, _, rfl⟩) (by decide) (by decide) ?_
          exact ⟨congrArg (fun z => some (Value.int z)) (own_ok1 (by omega)).symm, rfl, e0⟩
    · -- pc 9: f
      refine own_iconst X0 hx hby d9_12 rfl (1 : Int32) rfl ?_
      refine own_ret X0 hx hby hret hlk d9_13 (.int (1 : Int32)) rfl (Or.inl ⟨rfl, by simp, _, rfl⟩) (by decide) (by decide) ?_
      exact ⟨congrArg (fun z => some (Value.int z)) (own_ok1 (by omega)).symm, rfl, e0⟩
set_option maxRecDepth 65536 in
set_option maxHeartbeats 40000000 in
theorem rm18 (l : Launch) (Z : State) (a0 : Array Value) (hw : ∀ d ∈ tables_1, d.before a0 Z = true) (x0 : Int32) (h0 : Heap) :
    OwnMet l Z (⟨"com/example/uni_errors/unierrors/CorrelationHeaders", "asciiLetterOrDigit", "(I)Z"⟩ : MethodName) prog_5_method_10_code 1 (some .boolean) [] ({ frames := 0, cells := 0, slots := 0, locals := 0 } : Room) #[(.int x0)] h0 (fun v h L => ∃ r : Int32, v = some (.int r) ∧ L = [] ∧ h = h0 ∧ ((r = 1 ∧ ((97 ≤ x0.toInt ∧ x0.toInt ≤ 122) ∨ (65 ≤ x0.toInt ∧ x0.toInt ≤ 90) ∨ (48 ≤ x0.toInt ∧ x0.toInt ≤ 57))) ∨ (r = 0 ∧ ¬ ((97 ≤ x0.toInt ∧ x0.toInt ≤ 122) ∨ (65 ≤ x0.toInt ∧ x0.toInt ≤ 90) ∨ (48 ≤ x0.toInt ∧ x0.toInt ≤ 57))))) := by
  refine own_body (plainFor_of_name pn_1) (fun m => ef_18 m x0) ?_
  intro p e s m below meth c s₁ X0 hx hby hml hown hnm hret hlk hZ e0
  replace hown : s.vm.findClass "com/example/uni_errors/unierrors/CorrelationHeaders" = some m.cls := hown
  replace hml : c.maxLocals = 1 := hml
  show Ends p.tables e below _ (s₁.setTop (mkF m 0 #[.val (.int x0)] []))
  have i97 : (97 : Int32).toInt = 97 := rfl
  have i122 : (122 : Int32).toInt = 122 := rfl
  have i65 : (65 : Int32).toInt = 65 := rfl
  have i90 : (90 : Int32).toInt = 90 := rfl
  have i48 : (48 : Int32).toInt = 48 := rfl
  have i57 : (57 : Int32).toInt = 57 := rfl
  have i46 : (46 : Int32).toInt = 46 := rfl
  have i95 : (95 : Int32).toInt = 95 := rfl
  have i58 : (58 : Int32).toInt = 58 := rfl
  have i45 : (45 : Int32).toInt = 45 := rfl
  show Ends p.tables e below _ (s₁.setTop (mkF m 0 #[.val (.int x0)] []))
  refine own_iloadN X0 hx hby d18_0 rfl rfl ?_
  refine own_bipush X0 hx hby d18_1 rfl (97 : Int32) rfl ?_
  refine own_icmp_lt X0 hx hby d18_3 (pcY := 12) (pcN := 6) (by decide) rfl (fun (hc47 : x0.toInt < 97) => ?_) (fun (hc47 : 97 ≤ x0.toInt) => ?_)
  · -- pc 3: t
    refine own_iloadN X0 hx hby d18_12 rfl rfl ?_
    refine own_bipush X0 hx hby d18_13 rfl (65 : Int32) rfl ?_
    refine own_icmp_lt X0 hx hby d18_15 (pcY := 24) (pcN := 18) (by decide) rfl (fun (hc48 : x0.toInt < 65) => ?_) (fun (hc48 : 65 ≤ x0.toInt) => ?_)
    · -- pc 15: t
      refine own_iloadN X0 hx hby d18_24 rfl rfl ?_
      refine own_bipush X0 hx hby d18_25 rfl (48 : Int32) rfl ?_
      refine own_icmp_lt X0 hx hby d18_27 (pcY := 40) (pcN := 30) (by decide) rfl (fun (hc49 : x0.toInt < 48) => ?_) (fun (hc49 : 48 ≤ x0.toInt) => ?_)
      · -- pc 27: t
        refine own_iconst X0 hx hby d18_40 rfl (0 : Int32) rfl ?_
        refine own_ret X0 hx hby hret hlk d18_41 (.int (0 : Int32)) rfl (Or.inl ⟨rfl, by simp, _, rfl⟩) (by decide) (by decide) ?_
        exact ⟨_, rfl, rfl, e0, Or.inr ⟨rfl, by omega⟩⟩
      · -- pc 27: f
        refine own_iloadN X0 hx hby d18_30 rfl rfl ?_
        refine own_bipush X0 hx hby d18_31 rfl (57 : Int32) rfl ?_
        refine own_icmp_gt X0 hx hby d18_33 (pcY := 40) (pcN := 36) (by decide) rfl (fun (hc50 : 57 < x0.toInt) => ?_) (fun (hc50 : x0.toInt ≤ 57) => ?_)
        · -- pc 33: t
          refine own_iconst X0 hx hby d18_40 rfl (0 : Int32) rfl ?_
          refine own_ret X0 hx hby hret hlk d18_41 (.int (0 : Int32)) rfl (Or.inl ⟨rfl, by simp, _, rfl⟩) (by decide) (by decide) ?_
          exact ⟨_, rfl, rfl, e0, Or.inr ⟨rfl, by omega⟩⟩
        · -- pc 33: f
          refine own_iconst X0 hx hby d18_36 rfl (1 : Int32) rfl ?_
          refine own_goto X0 hx hby d18_37 (pc' := 41) (by decide) ?_
          refine own_ret X0 hx hby hret hlk d18_41 (.int (1 : Int32)) rfl (Or.inl ⟨rfl, by simp, _, rfl⟩) (by decide) (by decide) ?_
          exact ⟨_, rfl, rfl, e0, Or.inl ⟨rfl, by omega⟩⟩
    · -- pc 15: f
      refine own_iloadN X0 hx hby d18_18 rfl rfl ?_
      refine own_bipush X0 hx hby d18_19 rfl (90 : Int32) rfl ?_
      refine own_icmp_le X0 hx hby d18_21 (pcY := 36) (pcN := 24) (by decide) rfl (fun (hc51 : x0.toInt ≤ 90) => ?_) (fun (hc51 : 90 < x0.toInt) => ?_)
      · -- pc 21: t
        refine own_iconst X0 hx hby d18_36 rfl (1 : Int32) rfl ?_
        refine own_goto X0 hx hby d18_37 (pc' := 41) (by decide) ?_
        refine own_ret X0 hx hby hret hlk d18_41 (.int (1 : Int32)) rfl (Or.inl ⟨rfl, by simp, _, rfl⟩) (by decide) (by decide) ?_
        exact ⟨_, rfl, rfl, e0, Or.inl ⟨rfl, by omega⟩⟩
      · -- pc 21: f
        refine own_iloadN X0 hx hby d18_24 rfl rfl ?_
        refine own_bipush X0 hx hby d18_25 rfl (48 : Int32) rfl ?_
        refine own_icmp_lt X0 hx hby d18_27 (pcY := 40) (pcN := 30) (by decide) rfl (fun (hc52 : x0.toInt < 48) => ?_) (fun (hc52 : 48 ≤ x0.toInt) => ?_)
        · -- pc 27: t
          refine own_iconst X0 hx hby d18_40 rfl (0 : Int32) rfl ?_
          refine own_ret X0 hx hby hret hlk d18_41 (.int (0 : Int32)) rfl (Or.inl ⟨rfl, by simp, _, rfl⟩) (by decide) (by decide) ?_
          exact ⟨_, rfl, rfl, e0, Or.inr ⟨rfl, by omega⟩⟩
        · -- pc 27: f
          refine own_iloadN X0 hx hby d18_30 rfl rfl ?_
          refine own_bipush X0 hx hby d18_31 rfl (57 : Int32) rfl ?_
          refine own_icmp_gt X0 hx hby d18_33 (pcY := 40) (pcN := 36) (by decide) rfl (fun (hc53 : 57 < x0.toInt) => ?_) (fun (hc53 : x0.toInt ≤ 57) => ?_)
          · -- pc 33: t
            refine own_iconst X0 hx hby d18_40 rfl (0 : Int32) rfl ?_
            refine own_ret X0 hx hby hret hlk d18_41 (.int (0 : Int32)) rfl (Or.inl ⟨rfl, by simp, _, rfl⟩) (by decide) (by decide) ?_
            exact ⟨_, rfl, rfl, e0, Or.inr ⟨rfl, by omega⟩⟩
          · -- pc 33: f
            refine own_iconst X0 hx hby d18_36 rfl (1 : Int32) rfl ?_
            refine own_goto X0 hx hby d18_37 (pc' := 41) (by decide) ?_
            refine own_ret X0 hx hby hret hlk d18_41 (.int (1 : Int32)) rfl (Or.inl ⟨rfl, by simp, _, rfl⟩) (by decide) (by decide) ?_
            exact ⟨_, rfl, rfl, e0, Or.inl ⟨rfl, by omega⟩⟩
  · -- pc 3: f
    refine own_iloadN X0 hx hby d18_6 rfl rfl ?_
    refine own_bipush X0 hx hby d18_7 rfl (122 : Int32) rfl ?_
    refine own_icmp_le X0 hx hby d18_9 (pcY := 36) (pcN := 12) (by decide) rfl (fun (hc54 : x0.toInt ≤ 122) => ?_) (fun (hc54 : 122 < x0.toInt) => ?_)
    · -- pc 9: t
      refine own_iconst X0 hx hby d18_36 rfl (1 : Int32) rfl ?_
      refine own_goto X0 hx hby d18_37 (pc' := 41) (by decide) ?_
      refine own_ret X0 hx hby hret hlk d18_41 (.int (1 : Int32)) rfl (Or.inl ⟨rfl, by simp, _, rfl⟩) (by decide) (by decide) ?_
      exact ⟨_, rfl, rfl, e0, Or.inl ⟨rfl, by omega⟩⟩
    · -- pc 9: f
      refine own_iloadN X0 hx hby d18_12 rfl rfl ?_
      refine own_bipush X0 hx hby d18_13 rfl (65 : Int32) rfl ?_
      refine own_icmp_lt X0 hx hby d18_15 (pcY := 24) (pcN := 18) (by decide) rfl (fun (hc55 : x0.toInt < 65) => ?_) (fun (hc55 : 65 ≤ x0.toInt) => ?_)
      · -- pc 15: t
        refine own_iloadN X0 hx hby d18_24 rfl rfl ?_
        refine own_bipush X0 hx hby d18_25 rfl (48 : Int32) rfl ?_
        refine own_icmp_lt X0 hx hby d18_27 (pcY := 40) (pcN := 30) (by decide) rfl (fun (hc56 : x0.toInt < 48) => ?_) (fun (hc56 : 48 ≤ x0.toInt) => ?_)
        · -- pc 27: t
          refine own_iconst X0 hx hby d18_40 rfl (0 : Int32) rfl ?_
          refine own_ret X0 hx hby hret hlk d18_41 (.int (0 : Int32)) rfl (Or.inl ⟨rfl, by simp, _, rfl⟩) (by decide) (by decide) ?_
          exact ⟨_, rfl, rfl, e0, Or.inr ⟨rfl, by omega⟩⟩
        · -- pc 27: f
          refine own_iloadN X0 hx hby d18_30 rfl rfl ?_
          refine own_bipush X0 hx hby d18_31 rfl (57 : Int32) rfl ?_
          refine own_icmp_gt X0 hx hby d18_33 (pcY := 40) (pcN := 36) (by decide) rfl (fun (hc57 : 57 < x0.toInt) => ?_) (fun (hc57 : x0.toInt ≤ 57) => ?_)
          · -- pc 33: t
            refine own_iconst X0 hx hby d18_40 rfl (0 : Int32) rfl ?_
            refine own_ret X0 hx hby hret hlk d18_41 (.int (0 : Int32)) rfl (Or.inl ⟨rfl, by simp, _, rfl⟩) (by decide) (by decide) ?_
            exact ⟨_, rfl, rfl, e0, Or.inr ⟨rfl, by omega⟩⟩
          · -- pc 33: f
            refine own_iconst X0 hx hby d18_36 rfl (1 : Int32) rfl ?_
            refine own_goto X0 hx hby d18_37 (pc' := 41) (by decide) ?_
            refine own_ret X0 hx hby hret hlk d18_41 (.int (1 : Int32)) rfl (Or.inl ⟨rfl, by simp, _, rfl⟩) (by decide) (by decide) ?_
            exact ⟨_, rfl, rfl, e0, Or.inl ⟨rfl, by omega⟩⟩
      · -- pc 15: f
        refine own_iloadN X0 hx hby d18_18 rfl rfl ?_
        refine own_bipush X0 hx hby d18_19 rfl (90 : Int32) rfl ?_
        refine own_icmp_le X0 hx hby d18_21 (pcY := 36) (pcN := 24) (by decide) rfl (fun (hc58 : x0.toInt ≤ 90) => ?_) (fun (hc58 : 90 < x0.toInt) => ?_)
        · -- pc 21: t
          refine own_iconst X0 hx hby d18_36 rfl (1 : Int32) rfl ?_
          refine own_goto X0 hx hby d18_37 (pc' := 41) (by decide) ?_
          refine own_ret X0 hx hby hret hlk d18_41 (.int (1 : Int32)) rfl (Or.inl ⟨rfl, by simp, _, rfl⟩) (by decide) (by decide) ?_
          exact ⟨_, rfl, rfl, e0, Or.inl ⟨rfl, by omega⟩⟩
        · -- pc 21: f
          refine own_iloadN X0 hx hby d18_24 rfl rfl ?_
          refine own_bipush X0 hx hby d18_25 rfl (48 : Int32) rfl ?_
          refine own_icmp_lt X0 hx hby d18_27 (pcY := 40) (pcN := 30) (by decide) rfl (fun (hc59 : x0.toInt < 48) => ?_) (fun (hc59 : 48 ≤ x0.toInt) => ?_)
          · -- pc 27: t
            refine own_iconst X0 hx hby d18_40 rfl (0 : Int32) rfl ?_
            refine own_ret X0 hx hby hret hlk d18_41 (.int (0 : Int32)) rfl (Or.inl ⟨rfl, by simp, _, rfl⟩) (by decide) (by decide) ?_
            exact ⟨_, rfl, rfl, e0, Or.inr ⟨rfl, by omega⟩⟩
          · -- pc 27: f
            refine own_iloadN X0 hx hby d18_30 rfl rfl ?_
            refine own_bipush X0 hx hby d18_31 rfl (57 : Int32) rfl ?_
            refine own_icmp_gt X0 hx hby d18_33 (pcY := 40) (pcN := 36) (by decide) rfl (fun (hc60 : 57 < x0.toInt) => ?_) (fun (hc60 : x0.toInt ≤ 57) => ?_)
            · -- pc 33: t
              refine own_iconst X0 hx hby d18_40 rfl (0 : Int32) rfl ?_
              refine own_ret X0 hx hby hret hlk d18_41 (.int (0 : Int32)) rfl (Or.inl ⟨rfl, by simp, _, rfl⟩) (by decide) (by decide) ?_
              exact ⟨_, rfl, rfl, e0, Or.inr ⟨rfl, by omega⟩⟩
            · -- pc 33: f
              refine own_iconst X0 hx hby d18_36 rfl (1 : Int32) rfl ?_
              refine own_goto X0 hx hby d18_37 (pc' := 41) (by decide) ?_
              refine own_ret X0 hx hby hret hlk d18_41 (.int (1 : Int32)) rfl (Or.inl ⟨rfl, by simp, _, rfl⟩) (by decide) (by decide) ?_
              exact ⟨_, rfl, rfl, e0, Or.inl ⟨rfl, by omega⟩⟩
set_option maxRecDepth 65536 in
set_option maxHeartbeats 40000000 in
theorem rm17 (l : Launch) (Z : State) (a0 : Array Value) (hw : ∀ d ∈ tables_1, d.before a0 Z = true) (x0 : Int32) (h0 : Heap) :
    OwnMet l Z (⟨"com/example/uni_errors/unierrors/CorrelationHeaders", "idChar", "(I)Z"⟩ : MethodName) prog_5_method_8_code 1 (some .boolean) [] ({ frames := 1, cells := 0, slots := 0, locals := 12 } : Room) #[(.int x0)] h0 (fun v h L => v = some (.int (own_ok x0)) ∧ L = [] ∧ h = h0) := by
  refine own_body (plainFor_of_name pn_1) (fun m => ef_17 m x0) ?_
  intro p e s m below meth c s₁ X0 hx hby hml hown hnm hret hlk hZ e0
  replace hown : s.vm.findClass "com/example/uni_errors/unierrors/CorrelationHeaders" = some m.cls := hown
  replace hml : c.maxLocals = 1 := hml
  show Ends p.tables e below _ (s₁.setTop (mkF m 0 #[.val (.int x0)] []))
  have i97 : (97 : Int32).toInt = 97 := rfl
  have i122 : (122 : Int32).toInt = 122 := rfl
  have i65 : (65 : Int32).toInt = 65 := rfl
  have i90 : (90 : Int32).toInt = 90 := rfl
  have i48 : (48 : Int32).toInt = 48 := rfl
  have i57 : (57 : Int32).toInt = 57 := rfl
  have i46 : (46 : Int32).toInt = 46 := rfl
  have i95 : (95 : Int32).toInt = 95 := rfl
  have i58 : (58 : Int32).toInt = 58 := rfl
  have i45 : (45 : Int32).toInt = 45 := rfl
  show Ends p.tables e below _ (s₁.setTop (mkF m 0 #[.val (.int x0)] []))
  refine own_iloadN X0 hx hby d17_0 rfl rfl ?_
  refine own_static X0 hx hby hZ (argsL := [(.int x0)]) (rest := []) hown (hw _ tw_82) (hw _ tw_83) (hw _ tw_12) (hw _ tw_84) (by decide) (rm18 l Z a0 hw x0 h0) e0 (by rw [hml]; rfl) pd_0 rfl (by decide) (W := 0) (Nat.le_refl _) (by decide) (by decide) (by decide) d17_1 rfl rfl (fun v61 T61 L61 X61 hQ61 => ?_)
  rcases hQ61 with ⟨r61, rfl, rfl, e61, ⟨rfl, l61⟩ | ⟨rfl, l61⟩⟩
  · -- letter
    show Ends p.tables e below _ (T61.setTop (mkF m 4 #[.val (.int x0)] [(.int (1 : Int32))]))
    refine own_if_ne X61 hx hby d17_4 (pcY := 31) (pcN := 7) (by decide) rfl (fun (hc62 : ¬ (1 : Int32) = (0 : Int32)) => ?_) (fun (hc62 : (1 : Int32) = (0 : Int32)) => False.elim (by exact absurd hc62 (by decide)))
    refine own_iconst X61 hx hby d17_31 rfl (1 : Int32) rfl ?_
    refine own_goto X61 hx hby d17_32 (pc' := 36) (by decide) ?_
    refine own_ret X61 hx hby hret hlk d17_36 (.int (1 : Int32)) rfl (Or.inl ⟨rfl, by simp, _, rfl⟩) (by decide) (by decide) ?_
    exact ⟨congrArg (fun z => some (Value.int z)) (own_ok1 (by omega)).symm, rfl, e61⟩
  · -- none
    show Ends p.tables e below _ (T61.setTop (mkF m 4 #[.val (.int x0)] [(.int (0 : Int32))]))
    refine own_if_ne X61 hx hby d17_4 (pcY := 31) (pcN := 7) (by decide) rfl (fun (hc63 : ¬ (0 : Int32) = (0 : Int32)) => False.elim (by exact absurd hc63 (by decide))) (fun (hc63 : (0 : Int32) = (0 : Int32)) => ?_)
    refine own_iloadN X61 hx hby d17_7 rfl rfl ?_
    refine own_bipush X61 hx hby d17_8 rfl (46 : Int32) rfl ?_
    refine own_icmp_eq X61 hx hby d17_10 (pcY := 31) (pcN := 13) (by decide) rfl (fun (hc64 : x0 = (46 : Int32)) => ?_) (fun (hc64 : ¬ x0 = (46 : Int32)) => ?_)
    · -- pc 10: t
      have thc64 := congrArg Int32.toInt hc64
      refine own_iconst X61 hx hby d17_31 rfl (1 : Int32) rfl ?_
      refine own_goto X61 hx hby d17_32 (pc' := 36) (by decide) ?_
      refine own_ret X61 hx hby hret hlk d17_36 (.int (1 : Int32)) rfl (Or.inl ⟨rfl, by simp, _, rfl⟩) (by decide) (by decide) ?_
      exact ⟨congrArg (fun z => some (Value.int z)) (own_ok1 (by omega)).symm, rfl, e61⟩
    · -- pc 10: f
      have thc64 := own_nti hc64
      refine own_iloadN X61 hx hby d17_13 rfl rfl ?_
      refine own_bipush X61 hx hby d17_14 rfl (95 : Int32) rfl ?_
      refine own_icmp_eq X61 hx hby d17_16 (pcY := 31) (pcN := 19) (by decide) rfl (fun (hc65 : x0 = (95 : Int32)) => ?_) (fun (hc65 : ¬ x0 = (95 : Int32)) => ?_)
      · -- pc 16: t
        have thc65 := congrArg Int32.toInt hc65
        refine own_iconst X61 hx hby d17_31 rfl (1 : Int32) rfl ?_
        refine own_goto X61 hx hby d17_32 (pc' := 36) (by decide) ?_
        refine own_ret X61 hx hby hret hlk d17_36 (.int (1 : Int32)) rfl (Or.inl ⟨rfl, by simp, _, rfl⟩) (by decide) (by decide) ?_
        exact ⟨congrArg (fun z => some (Value.int z)) (own_ok1 (by omega)).symm, rfl, e61⟩
      · -- pc 16: f
        have thc65 := own_nti hc65
        refine own_iloadN X61 hx hby d17_19 rfl rfl ?_
        refine own_bipush X61 hx hby d17_20 rfl (58 : Int32) rfl ?_
        refine own_icmp_eq X61 hx hby d17_22 (pcY := 31) (pcN := 25) (by decide) rfl (fun (hc66 : x0 = (58 : Int32)) => ?_) (fun (hc66 : ¬ x0 = (58 : Int32)) => ?_)
        · -- pc 22: t
          have thc66 := congrArg Int32.toInt hc66
          refine own_iconst X61 hx hby d17_31 rfl (1 : Int32) rfl ?_
          refine own_goto X61 hx hby d17_32 (pc' := 36) (by decide) ?_
          refine own_ret X61 hx hby hret hlk d17_36 (.int (1 : Int32)) rfl (Or.inl ⟨rfl, by simp, _, rfl⟩) (by decide) (by decide) ?_
          exact ⟨congrArg (fun z => some (Value.int z)) (own_ok1 (by omega)).symm, rfl, e61⟩
        · -- pc 22: f
          have thc66 := own_nti hc66
          refine own_iloadN X61 hx hby d17_25 rfl rfl ?_
          refine own_bipush X61 hx hby d17_26 rfl (45 : Int32) rfl ?_
          refine own_icmp_ne X61 hx hby d17_28 (pcY := 35) (pcN := 31) (by decide) rfl (fun (hc67 : ¬ x0 = (45 : Int32)) => ?_) (fun (hc67 : x0 = (45 : Int32)) => ?_)
          · -- pc 28: t
            have thc67 := own_nti hc67
            refine own_iconst X61 hx hby d17_35 rfl (0 : Int32) rfl ?_
            refine own_ret X61 hx hby hret hlk d17_36 (.int (0 : Int32)) rfl (Or.inl ⟨rfl, by simp, _, rfl⟩) (by decide) (by decide) ?_
            exact ⟨congrArg (fun z => some (Value.int z)) (own_ok0 (by omega)).symm, rfl, e61⟩
          · -- pc 28: f
            have thc67 := congrArg Int32.toInt hc67
            refine own_iconst X61 hx hby d17_31 rfl (1 : Int32) rfl ?_
            refine own_goto X61 hx hby d17_32 (pc' := 36) (by decide) ?_
            refine own_ret X61 hx hby hret hlk d17_36 (.int (1 : Int32)) rfl (Or.inl ⟨rfl, by simp, _, rfl⟩) (by decide) (by decide) ?_
            exact ⟨congrArg (fun z => some (Value.int z)) (own_ok1 (by omega)).symm, rfl, e61⟩
set_option maxRecDepth 65536 in
set_option maxHeartbeats 40000000 in
theorem rmpci (l : Launch) (Z : State) (a0 : Array Value) (hw : ∀ d ∈ tables_1, d.before a0 Z = true) (x0 : Int32) (x1 : Int32) (h0 : Heap) (fm : Value) (hfm : fm.isRef = true) (h1 : 0 ≤ x0.toInt) (h2 : x0.toInt < x1.toInt) :
    OwnMet l Z (⟨"jdk/internal/util/Preconditions", "checkIndex", "(IILjava/util/function/BiFunction;)I"⟩ : MethodName) jdk_41_method_11_code 3 (some .int) [] ({ frames := 0, cells := 0, slots := 0, locals := 0 } : Room) #[(.int x0), (.int x1), fm] h0 (fun v h L => v = some (.int x0) ∧ L = [] ∧ h = h0) := by
  refine own_body (plainFor_of_name pn_2) (fun m => ef_pci m x0 x1 fm hfm) ?_
  intro p e s m below meth c s₁ X0 hx hby hml hown hnm hret hlk hZ e0
  replace hown : s.vm.findClass "jdk/internal/util/Preconditions" = some m.cls := hown
  replace hml : c.maxLocals = 3 := hml
  show Ends p.tables e below _ (s₁.setTop (mkF m 0 #[.val (.int x0), .val (.int x1), .val fm] []))
  have i0 : (0 : Int32).toInt = 0 := rfl
  show Ends p.tables e below _ (s₁.setTop (mkF m 0 #[.val (.int x0), .val (.int x1), .val fm] []))
  refine own_iloadN X0 hx hby d16_0 rfl rfl ?_
  refine own_if_lt X0 hx hby d16_1 (pcY := 9) (pcN := 4) (by decide) rfl (fun (hc68 : x0.toInt < 0) => False.elim (by omega)) (fun (hc68 : 0 ≤ x0.toInt) => ?_)
  refine own_iloadN X0 hx hby d16_4 rfl rfl ?_
  refine own_iloadN X0 hx hby d16_5 rfl rfl ?_
  refine own_icmp_lt X0 hx hby d16_6 (pcY := 16) (pcN := 9) (by decide) rfl (fun (hc69 : x0.toInt < x1.toInt) => ?_) (fun (hc69 : x1.toInt ≤ x0.toInt) => False.elim (by omega))
  refine own_iloadN X0 hx hby d16_16 rfl rfl ?_
  refine own_ret X0 hx hby hret hlk d16_17 (.int x0) rfl (Or.inl ⟨rfl, by simp, _, rfl⟩) (by decide) (by decide) ?_
  exact ⟨rfl, rfl, e0⟩
set_option maxRecDepth 65536 in
set_option maxHeartbeats 40000000 in
theorem rmsci (l : Launch) (Z : State) (a0 : Array Value) (hw : ∀ d ∈ tables_1, d.before a0 Z = true) (x0 : Int32) (x1 : Int32) (h0 : Heap) {ks : Int32} {fm : Value} (G : OwnGl Z ks fm) (O : Ext Z.heap h0) (h1 : 0 ≤ x0.toInt) (h2 : x0.toInt < x1.toInt) :
    OwnMet l Z (⟨"java/lang/String", "checkIndex", "(II)V"⟩ : MethodName) jdk_42_method_155_code 2 none [] ({ frames := 1, cells := 0, slots := 0, locals := 14 } : Room) #[(.int x0), (.int x1)] h0 (fun v h L => v = none ∧ L = [] ∧ h = h0) := by
  refine own_body (plainFor_of_name pn_3) (fun m => ef_sci m x0 x1) ?_
  intro p e s m below meth c s₁ X0 hx hby hml hown hnm hret hlk hZ e0
  replace hown : s.vm.findClass "java/lang/String" = some m.cls := hown
  replace hml : c.maxLocals = 2 := hml
  show Ends p.tables e below _ (s₁.setTop (mkF m 0 #[.val (.int x0), .val (.int x1)] []))
  refine own_iloadN X0 hx hby d15_0 rfl rfl ?_
  refine own_iloadN X0 hx hby d15_1 rfl rfl ?_
  refine own_getstatic X0 hx hby hZ hown (host := "") (Or.inl (hw _ tw_74)) Via.refl e0 (G.2.2.2.1.ext O) d15_2 rfl (fun T70 X70 e70 => ?_)
  refine own_static X70 hx hby hZ (argsL := [(.int x0), (.int x1), fm]) (rest := []) hown (hw _ tw_76) (hw _ tw_77) (hw _ tw_75) (hw _ tw_78) (by decide) (rmpci l Z a0 hw x0 x1 h0 fm G.2.1 h1 h2) e70 (by rw [hml]; rfl) pd_1 rfl (by decide) (W := 0) (Nat.le_refl _) (by decide) (by decide) (by decide) d15_5 rfl rfl (fun v71 T71 L71 X71 hQ71 => ?_)
  obtain ⟨rfl, rfl, e71⟩ := hQ71
  show Ends p.tables e below _ (T71.setTop (mkF m 8 #[.val (.int x0), .val (.int x1)] [(.int x0)]))
  refine own_pop X71 hx hby d15_8 rfl rfl ?_
  refine own_retV X71 hx hby hret hlk d15_9 (by decide) (by decide) ?_
  exact ⟨rfl, rfl, e71⟩
set_option maxRecDepth 65536 in
set_option maxHeartbeats 40000000 in
theorem rmlca (l : Launch) (Z : State) (a0 : Array Value) (hw : ∀ d ∈ tables_1, d.before a0 Z = true) (x0 : Addr) (x1 : Int32) (h0 : Heap) {ks : Int32} {fm : Value} (G : OwnGl Z ks fm) (O : Ext Z.heap h0) {kb : ClassId} {nb z : Int32} {vs : List Value} (Vb : Arv Z h0 x0 kb .byte nb vs (.int 0)) (hz : vs.getD x1.toNatClampNeg (.int 0) = .int z) (h1 : 0 ≤ x1.toInt) (h2 : x1.toInt < nb.toInt) :
    OwnMet l Z (⟨"java/lang/StringLatin1", "charAt", "([BI)C"⟩ : MethodName) jdk_43_method_2_code 2 (some .char) [] ({ frames := 2, cells := 0, slots := 0, locals := 27 } : Room) #[(.ref x0), (.int x1)] h0 (fun v h L => v = some (.int (z &&& (255 : Int32))) ∧ L = [] ∧ h = h0) := by
  refine own_body (plainFor_of_name pn_4) (fun m => ef_lca m x0 x1) ?_
  intro p e s m below meth c s₁ X0 hx hby hml hown hnm hret hlk hZ e0
  replace hown : s.vm.findClass "java/lang/StringLatin1" = some m.cls := hown
  replace hml : c.maxLocals = 2 := hml
  show Ends p.tables e below _ (s₁.setTop (mkF m 0 #[.val (.ref x0), .val (.int x1)] []))
  refine own_iloadN X0 hx hby d14_0 rfl rfl ?_
  refine own_aloadN X0 hx hby d14_1 rfl rfl rfl ?_
  refine own_arraylength X0 hx hby hZ e0 Vb d14_2 rfl ?_
  refine own_static X0 hx hby hZ (argsL := [(.int x1), (.int nb)]) (rest := []) hown (hw _ tw_71) (hw _ tw_72) (hw _ tw_3) (hw _ tw_73) (by decide) (rmsci l Z a0 hw x1 nb h0 G O h1 h2) e0 (by rw [hml]; rfl) pd_2 rfl (by decide) (W := 0) (Nat.le_refl _) (by decide) (by decide) (by decide) d14_3 rfl rfl (fun v72 T72 L72 X72 hQ72 => ?_)
  obtain ⟨rfl, rfl, e72⟩ := hQ72
  show Ends p.tables e below _ (T72.setTop (mkF m 6 #[.val (.ref x0), .val (.int x1)] []))
  refine own_aloadN X72 hx hby d14_6 rfl rfl rfl ?_
  refine own_iloadN X72 hx hby d14_7 rfl rfl ?_
  refine own_baload X72 hx hby hZ z e72 Vb (own_inb h1 h2) hz d14_8 rfl ?_
  refine own_sipush X72 hx hby d14_9 rfl (255 : Int32) rfl ?_
  refine own_iand X72 hx hby d14_12 rfl ?_
  refine own_i2c X72 hx hby d14_13 rfl ?_
  refine own_ret X72 hx hby hret hlk d14_14 (.int (z &&& (255 : Int32))) (by rw [Jvm.Free.XT.narrow_c, i2c_mask]) (Or.inl ⟨rfl, by simp, _, rfl⟩) (by decide) (by decide) ?_
  exact ⟨rfl, rfl, e72⟩
set_option maxRecDepth 65536 in
set_option maxHeartbeats 40000000 in
theorem rmule (l : Launch) (Z : State) (a0 : Array Value) (hw : ∀ d ∈ tables_1, d.before a0 Z = true) (x0 : Addr) (h0 : Heap) {kb : ClassId} {nb : Int32} {vs : List Value} (Vb : Arv Z h0 x0 kb .byte nb vs (.int 0)) :
    OwnMet l Z (⟨"java/lang/StringUTF16", "length", "([B)I"⟩ : MethodName) jdk_52_method_6_code 1 (some .int) [] ({ frames := 0, cells := 0, slots := 0, locals := 0 } : Room) #[(.ref x0)] h0 (fun v h L => v = some (.int (nb >>> ((1 : Int32) &&& 31))) ∧ L = [] ∧ h = h0) := by
  refine own_body (plainFor_of_name pn_5) (fun m => ef_ule m x0) ?_
  intro p e s m below meth c s₁ X0 hx hby hml hown hnm hret hlk hZ e0
  replace hown : s.vm.findClass "java/lang/StringUTF16" = some m.cls := hown
  replace hml : c.maxLocals = 1 := hml
  show Ends p.tables e below _ (s₁.setTop (mkF m 0 #[.val (.ref x0)] []))
  refine own_aloadN X0 hx hby d26_0 rfl rfl rfl ?_
  refine own_arraylength X0 hx hby hZ e0 Vb d26_1 rfl ?_
  refine own_iconst X0 hx hby d26_2 rfl (1 : Int32) rfl ?_
  refine own_ishr X0 hx hby d26_3 rfl ?_
  refine own_ret X0 hx hby hret hlk d26_4 (.int (nb >>> ((1 : Int32) &&& 31))) rfl (Or.inl ⟨rfl, by simp, _, rfl⟩) (by decide) (by decide) ?_
  exact ⟨rfl, rfl, e0⟩
set_option maxRecDepth 65536 in
set_option maxHeartbeats 40000000 in
theorem rmuci (l : Launch) (Z : State) (a0 : Array Value) (hw : ∀ d ∈ tables_1, d.before a0 Z = true) (x0 : Int32) (x1 : Addr) (h0 : Heap) {ks : Int32} {fm : Value} (G : OwnGl Z ks fm) (O : Ext Z.heap h0) {kb : ClassId} {nb : Int32} {vs : List Value} (Vb : Arv Z h0 x1 kb .byte nb vs (.int 0)) (h1 : 0 ≤ x0.toInt) (h2 : x0.toInt < (nb >>> ((1 : Int32) &&& 31)).toInt) :
    OwnMet l Z (⟨"java/lang/StringUTF16", "checkIndex", "(I[B)V"⟩ : MethodName) jdk_52_method_91_code 2 none [] ({ frames := 2, cells := 0, slots := 0, locals := 27 } : Room) #[(.int x0), (.ref x1)] h0 (fun v h L => v = none ∧ L = [] ∧ h = h0) := by
  refine own_body (plainFor_of_name pn_5) (fun m => ef_uci m x0 x1) ?_
  intro p e s m below meth c s₁ X0 hx hby hml hown hnm hret hlk hZ e0
  replace hown : s.vm.findClass "java/lang/StringUTF16" = some m.cls := hown
  replace hml : c.maxLocals = 2 := hml
  show Ends p.tables e below _ (s₁.setTop (mkF m 0 #[.val (.int x0), .val (.ref x1)] []))
  refine own_iloadN X0 hx hby d25_0 rfl rfl ?_
  refine own_aloadN X0 hx hby d25_1 rfl rfl rfl ?_
  refine own_static X0 hx hby hZ (argsL := [(.ref x1)]) (rest := [(.int x0)]) hown (hw _ tw_110) (hw _ tw_111) (hw _ tw_34) (hw _ tw_112) (by decide) (rmule l Z a0 hw x1 h0 Vb) e0 (by rw [hml]; rfl) pd_3 rfl (by decide) (W := 1) (Nat.le_refl _) (by decide) (by decide) (by decide) d25_2 rfl rfl (fun v73 T73 L73 X73 hQ73 => ?_)
  obtain ⟨rfl, rfl, e73⟩ := hQ73
  show Ends p.tables e below _ (T73.setTop (mkF m 5 #[.val (.int x0), .val (.ref x1)] [(.int (nb >>> ((1 : Int32) &&& 31))), (.int x0)]))
  refine own_static X73 hx hby hZ (argsL := [(.int x0), (.int (nb >>> ((1 : Int32) &&& 31)))]) (rest := []) hown (hw _ tw_113) (hw _ tw_72) (hw _ tw_3) (hw _ tw_73) (by decide) (rmsci l Z a0 hw x0 (nb >>> ((1 : Int32) &&& 31)) h0 G O h1 h2) e73 (by rw [hml]; rfl) pd_2 rfl (by decide) (W := 0) (Nat.le_refl _) (by decide) (by decide) (by decide) d25_5 rfl rfl (fun v74 T74 L74 X74 hQ74 => ?_)
  obtain ⟨rfl, rfl, e74⟩ := hQ74
  show Ends p.tables e below _ (T74.setTop (mkF m 8 #[.val (.int x0), .val (.ref x1)] []))
  refine own_retV X74 hx hby hret hlk d25_8 (by decide) (by decide) ?_
  exact ⟨rfl, rfl, e74⟩
set_option maxRecDepth 65536 in
set_option maxHeartbeats 40000000 in
theorem rmugc (l : Launch) (Z : State) (a0 : Array Value) (hw : ∀ d ∈ tables_1, d.before a0 Z = true) (x0 : Addr) (x1 : Int32) (h0 : Heap) {ks : Int32} {fm : Value} (G : OwnGl Z ks fm) (O : Ext Z.heap h0) {kb : ClassId} {nb : Int32} {vs : List Value} (Vb : Arv Z h0 x0 kb .byte nb vs (.int 0)) (hj0 : ¬ (x1 <<< ((1 : Int32) &&& 31)) < 0 ∧ (x1 <<< ((1 : Int32) &&& 31)) < nb) (hj1 : ¬ (x1 <<< ((1 : Int32) &&& 31)) + 1 < 0 ∧ (x1 <<< ((1 : Int32) &&& 31)) + 1 < nb) {zp zq y : Int32} (hp : vs.getD (x1 <<< ((1 : Int32) &&& 31)).toNatClampNeg (.int 0) = .int zp) (hq : vs.getD ((x1 <<< ((1 : Int32) &&& 31)) + 1).toNatClampNeg (.int 0) = .int zq) (hy : ((zp &&& (255 : Int32)) <<< ((0 : Int32) &&& 31)) ||| ((zq &&& (255 : Int32)) <<< ((8 : Int32) &&& 31)) = y) (hyr : 0 ≤ y.toInt ∧ y.toInt < 65536) :
    OwnMet l Z (⟨"java/lang/StringUTF16", "getChar", "([BI)C"⟩ : MethodName) jdk_52_method_5_code 2 (some .char) [] ({ frames := 0, cells := 0, slots := 0, locals := 0 } : Room) #[(.ref x0), (.int x1)] h0 (fun v h L => v = some (.int y) ∧ L = [] ∧ h = h0) := by
  refine own_body (plainFor_of_name pn_5) (fun m => ef_ugc m x0 x1) ?_
  intro p e s m below meth c s₁ X0 hx hby hml hown hnm hret hlk hZ e0
  replace hown : s.vm.findClass "java/lang/StringUTF16" = some m.cls := hown
  replace hml : c.maxLocals = 2 := hml
  show Ends p.tables e below _ (s₁.setTop (mkF m 0 #[.val (.ref x0), .val (.int x1)] []))
  refine own_getstatic X0 hx hby hZ hown (host := "") (Or.inl (hw _ tw_98)) Via.refl e0 (G.2.2.2.2.1.ext O) d23_0 rfl (fun T75 X75 e75 => ?_)
  refine own_if_ne X75 hx hby d23_3 (pcY := 28) (pcN := 6) (by decide) rfl (fun (hc76 : ¬ (1 : Int32) = (0 : Int32)) => ?_) (fun (hc76 : (1 : Int32) = (0 : Int32)) => False.elim (by exact absurd hc76 (by decide)))
  refine own_iloadN X75 hx hby d23_28 rfl rfl ?_
  refine own_iconst X75 hx hby d23_29 rfl (1 : Int32) rfl ?_
  refine own_ishl X75 hx hby d23_30 rfl ?_
  refine own_istoreN X75 hx hby d23_31 rfl #[.val (.ref x0), .val (.int (x1 <<< ((1 : Int32) &&& 31)))] rfl ?_
  refine own_aloadN X75 hx hby d23_32 rfl rfl rfl ?_
  refine own_iloadN X75 hx hby d23_33 rfl rfl ?_
  refine own_iinc X75 hx hby d23_34 rfl (1 : Int32) rfl #[.val (.ref x0), .val (.int ((x1 <<< ((1 : Int32) &&& 31)) + (1 : Int32)))] rfl rfl ?_
  refine own_baload X75 hx hby hZ zp e75 Vb hj0 hp d23_37 rfl ?_
  refine own_sipush X75 hx hby d23_38 rfl (255 : Int32) rfl ?_
  refine own_iand X75 hx hby d23_41 rfl ?_
  refine own_getstatic X75 hx hby hZ hown (host := "") (Or.inl (hw _ tw_99)) Via.refl e75 (G.2.2.2.2.2.1.ext O) d23_42 rfl (fun T77 X77 e77 => ?_)
  refine own_ishl X77 hx hby d23_45 rfl ?_
  refine own_aloadN X77 hx hby d23_46 rfl rfl rfl ?_
  refine own_iloadN X77 hx hby d23_47 rfl rfl ?_
  refine own_baload X77 hx hby hZ zq e77 Vb hj1 hq d23_48 rfl ?_
  refine own_sipush X77 hx hby d23_49 rfl (255 : Int32) rfl ?_
  refine own_iand X77 hx hby d23_52 rfl ?_
  refine own_getstatic X77 hx hby hZ hown (host := "") (Or.inl (hw _ tw_100)) Via.refl e77 (G.2.2.2.2.2.2.ext O) d23_53 rfl (fun T78 X78 e78 => ?_)
  refine own_ishl X78 hx hby d23_56 rfl ?_
  refine own_ior X78 hx hby d23_57 rfl ?_
  refine own_i2c X78 hx hby d23_58 rfl ?_
  refine own_ret X78 hx hby hret hlk d23_59 (.int y) (by rw [hy, Jvm.Free.XT.narrow_c, own_toc hyr]) (Or.inl ⟨rfl, by simp, _, rfl⟩) (by decide) (by decide) ?_
  exact ⟨rfl, rfl, e78⟩
set_option maxRecDepth 65536 in
set_option maxHeartbeats 40000000 in
theorem rmuca (l : Launch) (Z : State) (a0 : Array Value) (hw : ∀ d ∈ tables_1, d.before a0 Z = true) (x0 : Addr) (x1 : Int32) (h0 : Heap) {ks : Int32} {fm : Value} (G : OwnGl Z ks fm) (O : Ext Z.heap h0) {kb : ClassId} {nb : Int32} {vs : List Value} (Vb : Arv Z h0 x0 kb .byte nb vs (.int 0)) (h1 : 0 ≤ x1.toInt) (h2 : x1.toInt < (nb >>> ((1 : Int32) &&& 31)).toInt) (hj0 : ¬ (x1 <<< ((1 : Int32) &&& 31)) < 0 ∧ (x1 <<< ((1 : Int32) &&& 31)) < nb) (hj1 : ¬ (x1 <<< ((1 : Int32) &&& 31)) + 1 < 0 ∧ (x1 <<< ((1 : Int32) &&& 31)) + 1 < nb) {zp zq y : Int32} (hp : vs.getD (x1 <<< ((1 : Int32) &&& 31)).toNatClampNeg (.int 0) = .int zp) (hq : vs.getD ((x1 <<< ((1 : Int32) &&& 31)) + 1).toNatClampNeg (.int 0) = .int zq) (hy : ((zp &&& (255 : Int32)) <<< ((0 : Int32) &&& 31)) ||| ((zq &&& (255 : Int32)) <<< ((8 : Int32) &&& 31)) = y) (hyr : 0 ≤ y.toInt ∧ y.toInt < 65536) :
    OwnMet l Z (⟨"java/lang/StringUTF16", "charAt", "([BI)C"⟩ : MethodName) jdk_52_method_83_code 2 (some .char) [] ({ frames := 3, cells := 0, slots := 0, locals := 40 } : Room) #[(.ref x0), (.int x1)] h0 (fun v h L => v = some (.int y) ∧ L = [] ∧ h = h0) := by
  refine own_body (plainFor_of_name pn_5) (fun m => ef_uca m x0 x1) ?_
  intro p e s m below meth c s₁ X0 hx hby hml hown hnm hret hlk hZ e0
  replace hown : s.vm.findClass "java/lang/StringUTF16" = some m.cls := hown
  replace hml : c.maxLocals = 2 := hml
  show Ends p.tables e below _ (s₁.setTop (mkF m 0 #[.val (.ref x0), .val (.int x1)] []))
  refine own_iloadN X0 hx hby d24_0 rfl rfl ?_
  refine own_aloadN X0 hx hby d24_1 rfl rfl rfl ?_
  refine own_static X0 hx hby hZ (argsL := [(.int x1), (.ref x0)]) (rest := []) hown (hw _ tw_107) (hw _ tw_108) (hw _ tw_34) (hw _ tw_109) (by decide) (rmuci l Z a0 hw x1 x0 h0 G O Vb h1 h2) e0 (by rw [hml]; rfl) pd_4 rfl (by decide) (W := 0) (Nat.le_refl _) (by decide) (by decide) (by decide) d24_2 rfl rfl (fun v79 T79 L79 X79 hQ79 => ?_)
  obtain ⟨rfl, rfl, e79⟩ := hQ79
  show Ends p.tables e below _ (T79.setTop (mkF m 5 #[.val (.ref x0), .val (.int x1)] []))
  refine own_aloadN X79 hx hby d24_5 rfl rfl rfl ?_
  refine own_iloadN X79 hx hby d24_6 rfl rfl ?_
  refine own_static X79 hx hby hZ (argsL := [(.ref x0), (.int x1)]) (rest := []) hown (hw _ tw_101) (hw _ tw_102) (hw _ tw_34) (hw _ tw_103) (by decide) (rmugc l Z a0 hw x0 x1 h0 G O Vb hj0 hj1 hp hq hy hyr) e79 (by rw [hml]; rfl) pd_5 rfl (by decide) (W := 0) (Nat.le_refl _) (by decide) (by decide) (by decide) d24_7 rfl rfl (fun v80 T80 L80 X80 hQ80 => ?_)
  obtain ⟨rfl, rfl, e80⟩ := hQ80
  show Ends p.tables e below _ (T80.setTop (mkF m 10 #[.val (.ref x0), .val (.int x1)] [(.int y)]))
  refine own_ret X80 hx hby hret hlk d24_10 (.int y) (own_narc hyr) (Or.inl ⟨rfl, by simp, _, rfl⟩) (by decide) (by decide) ?_
  exact ⟨rfl, rfl, e80⟩
set_option maxRecDepth 65536 in
set_option maxHeartbeats 40000000 in
theorem rmcoder0 (l : Launch) (Z : State) (a0 : Array Value) (hw : ∀ d ∈ tables_1, d.before a0 Z = true) (x0 : Addr) (h0 : Heap) {ks : Int32} {fm : Value} (G : OwnGl Z ks fm) (O : Ext Z.heap h0) {b1 : Addr} {k1 : ClassId} {nb : Int32} {vs : List Value} (E : Exa Z h0 x0 "java/lang/String") (Fc : Fld Z h0 x0 "java/lang/String" "coder" "B" (.int (0 : Int32))) (Fv : Fld Z h0 x0 "java/lang/String" "value" "[B" (.ref b1)) (Vb : Arv Z h0 b1 k1 .byte nb vs (.int 0)) :
    OwnMet l Z (⟨"java/lang/String", "coder", "()B"⟩ : MethodName) jdk_42_method_152_code 1 (some .byte) [] ({ frames := 0, cells := 0, slots := 0, locals := 0 } : Room) #[(.ref x0)] h0 (fun v h L => v = some (.int (0 : Int32)) ∧ L = [] ∧ h = h0) := by
  refine own_body (plainFor_of_name pn_3) (fun m => ef_coder0 m x0) ?_
  intro p e s m below meth c s₁ X0 hx hby hml hown hnm hret hlk hZ e0
  replace hown : s.vm.findClass "java/lang/String" = some m.cls := hown
  replace hml : c.maxLocals = 1 := hml
  show Ends p.tables e below _ (s₁.setTop (mkF m 0 #[.val (.ref x0)] []))
  refine own_getstatic X0 hx hby hZ hown (host := "") (Or.inl (hw _ tw_31)) Via.refl e0 (G.2.2.1.ext O) d11_0 rfl (fun T81 X81 e81 => ?_)
  refine own_if_eq X81 hx hby d11_3 (pcY := 13) (pcN := 6) (by decide) rfl (fun (hc82 : ks = (0 : Int32)) => False.elim (by exact G.1 hc82)) (fun (hc82 : ¬ ks = (0 : Int32)) => ?_)
  refine own_aloadN X81 hx hby d11_6 rfl rfl rfl ?_
  refine own_getfield X81 hx hby hZ hown (host := "") (Or.inl (hw _ tw_42)) Via.refl e81 Fc d11_7 rfl (fun T83 X83 e83 => ?_)
  refine own_goto X83 hx hby d11_10 (pc' := 14) (by decide) ?_
  refine own_ret X83 hx hby hret hlk d11_14 (.int (0 : Int32)) rfl (Or.inl ⟨rfl, by simp, _, rfl⟩) (by decide) (by decide) ?_
  exact ⟨rfl, rfl, e83⟩
set_option maxRecDepth 65536 in
set_option maxHeartbeats 40000000 in
theorem rmisLatin10 (l : Launch) (Z : State) (a0 : Array Value) (hw : ∀ d ∈ tables_1, d.before a0 Z = true) (x0 : Addr) (h0 : Heap) {ks : Int32} {fm : Value} (G : OwnGl Z ks fm) (O : Ext Z.heap h0) {b1 : Addr} {k1 : ClassId} {nb : Int32} {vs : List Value} (E : Exa Z h0 x0 "java/lang/String") (Fc : Fld Z h0 x0 "java/lang/String" "coder" "B" (.int (0 : Int32))) (Fv : Fld Z h0 x0 "java/lang/String" "value" "[B" (.ref b1)) (Vb : Arv Z h0 b1 k1 .byte nb vs (.int 0)) :
    OwnMet l Z (⟨"java/lang/String", "isLatin1", "()Z"⟩ : MethodName) jdk_42_method_154_code 1 (some .boolean) [] ({ frames := 0, cells := 0, slots := 0, locals := 0 } : Room) #[(.ref x0)] h0 (fun v h L => v = some (.int (1 : Int32)) ∧ L = [] ∧ h = h0) := by
  refine own_body (plainFor_of_name pn_3) (fun m => ef_isLatin10 m x0) ?_
  intro p e s m below meth c s₁ X0 hx hby hml hown hnm hret hlk hZ e0
  replace hown : s.vm.findClass "java/lang/String" = some m.cls := hown
  replace hml : c.maxLocals = 1 := hml
  show Ends p.tables e below _ (s₁.setTop (mkF m 0 #[.val (.ref x0)] []))
  refine own_getstatic X0 hx hby hZ hown (host := "") (Or.inl (hw _ tw_31)) Via.refl e0 (G.2.2.1.ext O) d13_0 rfl (fun T84 X84 e84 => ?_)
  refine own_if_eq X84 hx hby d13_3 (pcY := 17) (pcN := 6) (by decide) rfl (fun (hc85 : ks = (0 : Int32)) => False.elim (by exact G.1 hc85)) (fun (hc85 : ¬ ks = (0 : Int32)) => ?_)
  refine own_aloadN X84 hx hby d13_6 rfl rfl rfl ?_
  refine own_getfield X84 hx hby hZ hown (host := "") (Or.inl (hw _ tw_42)) Via.refl e84 Fc d13_7 rfl (fun T86 X86 e86 => ?_)
  refine own_if_ne X86 hx hby d13_10 (pcY := 17) (pcN := 13) (by decide) rfl (fun (hc87 : ¬ (0 : Int32) = (0 : Int32)) => False.elim (by exact absurd hc87 (by decide))) (fun (hc87 : (0 : Int32) = (0 : Int32)) => ?_)
  refine own_iconst X86 hx hby d13_13 rfl (1 : Int32) rfl ?_
  refine own_goto X86 hx hby d13_14 (pc' := 18) (by decide) ?_
  refine own_ret X86 hx hby hret hlk d13_18 (.int (1 : Int32)) rfl (Or.inl ⟨rfl, by simp, _, rfl⟩) (by decide) (by decide) ?_
  exact ⟨rfl, rfl, e86⟩
set_option maxRecDepth 65536 in
set_option maxHeartbeats 40000000 in
theorem rmlength0 (l : Launch) (Z : State) (a0 : Array Value) (hw : ∀ d ∈ tables_1, d.before a0 Z = true) (x0 : Addr) (h0 : Heap) {ks : Int32} {fm : Value} (G : OwnGl Z ks fm) (O : Ext Z.heap h0) {b1 : Addr} {k1 : ClassId} {nb : Int32} {vs : List Value} (E : Exa Z h0 x0 "java/lang/String") (Fc : Fld Z h0 x0 "java/lang/String" "coder" "B" (.int (0 : Int32))) (Fv : Fld Z h0 x0 "java/lang/String" "value" "[B" (.ref b1)) (Vb : Arv Z h0 b1 k1 .byte nb vs (.int 0)) :
    OwnMet l Z (⟨"java/lang/String", "length", "()I"⟩ : MethodName) jdk_42_method_54_code 1 (some .int) [] ({ frames := 1, cells := 0, slots := 0, locals := 13 } : Room) #[(.ref x0)] h0 (fun v h L => v = some (.int (nb >>> ((0 : Int32) &&& 31))) ∧ L = [] ∧ h = h0) := by
  refine own_body (plainFor_of_name pn_3) (fun m => ef_length0 m x0) ?_
  intro p e s m below meth c s₁ X0 hx hby hml hown hnm hret hlk hZ e0
  replace hown : s.vm.findClass "java/lang/String" = some m.cls := hown
  replace hml : c.maxLocals = 1 := hml
  show Ends p.tables e below _ (s₁.setTop (mkF m 0 #[.val (.ref x0)] []))
  refine own_aloadN X0 hx hby d10_0 rfl rfl rfl ?_
  refine own_getfield X0 hx hby hZ hown (host := "") (Or.inl (hw _ tw_19)) Via.refl e0 Fv d10_1 rfl (fun T88 X88 e88 => ?_)
  refine own_arraylength X88 hx hby hZ e88 Vb d10_4 rfl ?_
  refine own_aloadN X88 hx hby d10_5 rfl rfl rfl ?_
  refine own_virtual X88 hx hby hZ (Cn := "java/lang/String") (a := x0) (argsL := []) (rest := [(.int nb)]) hown (hw _ tw_52) (hw _ tw_53) (hw _ tw_55) (hw _ tw_54) (hw _ tw_3) (hw _ tw_56) (by decide) (rmcoder0 l Z a0 hw x0 h0 G O E Fc Fv Vb) E e88 (by rw [hml]; rfl) pd_6 rfl (by decide) (W := 1) (Nat.le_refl _) (by decide) (by decide) (by decide) d10_6 rfl rfl (fun v89 T89 L89 X89 hQ89 => ?_)
  obtain ⟨rfl, rfl, e89⟩ := hQ89
  show Ends p.tables e below _ (T89.setTop (mkF m 9 #[.val (.ref x0)] [(.int (0 : Int32)), (.int nb)]))
  refine own_ishr X89 hx hby d10_9 rfl ?_
  refine own_ret X89 hx hby hret hlk d10_10 (.int (nb >>> ((0 : Int32) &&& 31))) rfl (Or.inl ⟨rfl, by simp, _, rfl⟩) (by decide) (by decide) ?_
  exact ⟨rfl, rfl, e89⟩
set_option maxRecDepth 65536 in
set_option maxHeartbeats 40000000 in
theorem rmcoder1 (l : Launch) (Z : State) (a0 : Array Value) (hw : ∀ d ∈ tables_1, d.before a0 Z = true) (x0 : Addr) (h0 : Heap) {ks : Int32} {fm : Value} (G : OwnGl Z ks fm) (O : Ext Z.heap h0) {b1 : Addr} {k1 : ClassId} {nb : Int32} {vs : List Value} (E : Exa Z h0 x0 "java/lang/String") (Fc : Fld Z h0 x0 "java/lang/String" "coder" "B" (.int (1 : Int32))) (Fv : Fld Z h0 x0 "java/lang/String" "value" "[B" (.ref b1)) (Vb : Arv Z h0 b1 k1 .byte nb vs (.int 0)) :
    OwnMet l Z (⟨"java/lang/String", "coder", "()B"⟩ : MethodName) jdk_42_method_152_code 1 (some .byte) [] ({ frames := 0, cells := 0, slots := 0, locals := 0 } : Room) #[(.ref x0)] h0 (fun v h L => v = some (.int (1 : Int32)) ∧ L = [] ∧ h = h0) := by
  refine own_body (plainFor_of_name pn_3) (fun m => ef_coder1 m x0) ?_
  intro p e s m below meth c s₁ X0 hx hby hml hown hnm hret hlk hZ e0
  replace hown : s.vm.findClass "java/lang/String" = some m.cls := hown
  replace hml : c.maxLocals = 1 := hml
  show Ends p.tables e below _ (s₁.setTop (mkF m 0 #[.val (.ref x0)] []))
  refine own_getstatic X0 hx hby hZ hown (host := "") (Or.inl (hw _ tw_31)) Via.refl e0 (G.2.2.1.ext O) d11_0 rfl (fun T90 X90 e90 => ?_)
  refine own_if_eq X90 hx hby d11_3 (pcY := 13) (pcN := 6) (by decide) rfl (fun (hc91 : ks = (0 : Int32)) => False.elim (by exact G.1 hc91)) (fun (hc91 : ¬ ks = (0 : Int32)) => ?_)
  refine own_aloadN X90 hx hby d11_6 rfl rfl rfl ?_
  refine own_getfield X90 hx hby hZ hown (host := "") (Or.inl (hw _ tw_42)) Via.refl e90 Fc d11_7 rfl (fun T92 X92 e92 => ?_)
  refine own_goto X92 hx hby d11_10 (pc' := 14) (by decide) ?_
  refine own_ret X92 hx hby hret hlk d11_14 (.int (1 : Int32)) rfl (Or.inl ⟨rfl, by simp, _, rfl⟩) (by decide) (by decide) ?_
  exact ⟨rfl, rfl, e92⟩
set_option maxRecDepth 65536 in
set_option maxHeartbeats 40000000 in
theorem rmisLatin11 (l : Launch) (Z : State) (a0 : Array Value) (hw : ∀ d ∈ tables_1, d.before a0 Z = true) (x0 : Addr) (h0 : Heap) {ks : Int32} {fm : Value} (G : OwnGl Z ks fm) (O : Ext Z.heap h0) {b1 : Addr} {k1 : ClassId} {nb : Int32} {vs : List Value} (E : Exa Z h0 x0 "java/lang/String") (Fc : Fld Z h0 x0 "java/lang/String" "coder" "B" (.int (1 : Int32))) (Fv : Fld Z h0 x0 "java/lang/String" "value" "[B" (.ref b1)) (Vb : Arv Z h0 b1 k1 .byte nb vs (.int 0)) :
    OwnMet l Z (⟨"java/lang/String", "isLatin1", "()Z"⟩ : MethodName) jdk_42_method_154_code 1 (some .boolean) [] ({ frames := 0, cells := 0, slots := 0, locals := 0 } : Room) #[(.ref x0)] h0 (fun v h L => v = some (.int (0 : Int32)) ∧ L = [] ∧ h = h0) := by
  refine own_body (plainFor_of_name pn_3) (fun m => ef_isLatin11 m x0) ?_
  intro p e s m below meth c s₁ X0 hx hby hml hown hnm hret hlk hZ e0
  replace hown : s.vm.findClass "java/lang/String" = some m.cls := hown
  replace hml : c.maxLocals = 1 := hml
  show Ends p.tables e below _ (s₁.setTop (mkF m 0 #[.val (.ref x0)] []))
  refine own_getstatic X0 hx hby hZ hown (host := "") (Or.inl (hw _ tw_31)) Via.refl e0 (G.2.2.1.ext O) d13_0 rfl (fun T93 X93 e93 => ?_)
  refine own_if_eq X93 hx hby d13_3 (pcY := 17) (pcN := 6) (by decide) rfl (fun (hc94 : ks = (0 : Int32)) => False.elim (by exact G.1 hc94)) (fun (hc94 : ¬ ks = (0 : Int32)) => ?_)
  refine own_aloadN X93 hx hby d13_6 rfl rfl rfl ?_
  refine own_getfield X93 hx hby hZ hown (host := "") (Or.inl (hw _ tw_42)) Via.refl e93 Fc d13_7 rfl (fun T95 X95 e95 => ?_)
  refine own_if_ne X95 hx hby d13_10 (pcY := 17) (pcN := 13) (by decide) rfl (fun (hc96 : ¬ (1 : Int32) = (0 : Int32)) => ?_) (fun (hc96 : (1 : Int32) = (0 : Int32)) => False.elim (by exact absurd hc96 (by decide)))
  refine own_iconst X95 hx hby d13_17 rfl (0 : Int32) rfl ?_
  refine own_ret X95 hx hby hret hlk d13_18 (.int (0 : Int32)) rfl (Or.inl ⟨rfl, by simp, _, rfl⟩) (by decide) (by decide) ?_
  exact ⟨rfl, rfl, e95⟩
set_option maxRecDepth 65536 in
set_option maxHeartbeats 40000000 in
theorem rmlength1 (l : Launch) (Z : State) (a0 : Array Value) (hw : ∀ d ∈ tables_1, d.before a0 Z = true) (x0 : Addr) (h0 : Heap) {ks : Int32} {fm : Value} (G : OwnGl Z ks fm) (O : Ext Z.heap h0) {b1 : Addr} {k1 : ClassId} {nb : Int32} {vs : List Value} (E : Exa Z h0 x0 "java/lang/String") (Fc : Fld Z h0 x0 "java/lang/String" "coder" "B" (.int (1 : Int32))) (Fv : Fld Z h0 x0 "java/lang/String" "value" "[B" (.ref b1)) (Vb : Arv Z h0 b1 k1 .byte nb vs (.int 0)) :
    OwnMet l Z (⟨"java/lang/String", "length", "()I"⟩ : MethodName) jdk_42_method_54_code 1 (some .int) [] ({ frames := 1, cells := 0, slots := 0, locals := 13 } : Room) #[(.ref x0)] h0 (fun v h L => v = some (.int (nb >>> ((1 : Int32) &&& 31))) ∧ L = [] ∧ h = h0) := by
  refine own_body (plainFor_of_name pn_3) (fun m => ef_length1 m x0) ?_
  intro p e s m below meth c s₁ X0 hx hby hml hown hnm hret hlk hZ e0
  replace hown : s.vm.findClass "java/lang/String" = some m.cls := hown
  replace hml : c.maxLocals = 1 := hml
  show Ends p.tables e below _ (s₁.setTop (mkF m 0 #[.val (.ref x0)] []))
  refine own_aloadN X0 hx hby d10_0 rfl rfl rfl ?_
  refine own_getfield X0 hx hby hZ hown (host := "") (Or.inl (hw _ tw_19)) Via.refl e0 Fv d10_1 rfl (fun T97 X97 e97 => ?_)
  refine own_arraylength X97 hx hby hZ e97 Vb d10_4 rfl ?_
  refine own_aloadN X97 hx hby d10_5 rfl rfl rfl ?_
  refine own_virtual X97 hx hby hZ (Cn := "java/lang/String") (a := x0) (argsL := []) (rest := [(.int nb)]) hown (hw _ tw_52) (hw _ tw_53) (hw _ tw_55) (hw _ tw_54) (hw _ tw_3) (hw _ tw_56) (by decide) (rmcoder1 l Z a0 hw x0 h0 G O E Fc Fv Vb) E e97 (by rw [hml]; rfl) pd_6 rfl (by decide) (W := 1) (Nat.le_refl _) (by decide) (by decide) (by decide) d10_6 rfl rfl (fun v98 T98 L98 X98 hQ98 => ?_)
  obtain ⟨rfl, rfl, e98⟩ := hQ98
  show Ends p.tables e below _ (T98.setTop (mkF m 9 #[.val (.ref x0)] [(.int (1 : Int32)), (.int nb)]))
  refine own_ishr X98 hx hby d10_9 rfl ?_
  refine own_ret X98 hx hby hret hlk d10_10 (.int (nb >>> ((1 : Int32) &&& 31))) rfl (Or.inl ⟨rfl, by simp, _, rfl⟩) (by decide) (by decide) ?_
  exact ⟨rfl, rfl, e98⟩
set_option maxRecDepth 65536 in
set_option maxHeartbeats 40000000 in
theorem rmise0 (l : Launch) (Z : State) (a0 : Array Value) (hw : ∀ d ∈ tables_1, d.before a0 Z = true) (x0 : Addr) (h0 : Heap) {ks : Int32} {fm : Value} (G : OwnGl Z ks fm) (O : Ext Z.heap h0) {b1 : Addr} {k1 : ClassId} {nb : Int32} {vs : List Value} (E : Exa Z h0 x0 "java/lang/String") {cc : Int32} (Fc : Fld Z h0 x0 "java/lang/String" "coder" "B" (.int cc)) (Fv : Fld Z h0 x0 "java/lang/String" "value" "[B" (.ref b1)) (Vb : Arv Z h0 b1 k1 .byte nb vs (.int 0)) (hne :  nb = 0) :
    OwnMet l Z (⟨"java/lang/String", "isEmpty", "()Z"⟩ : MethodName) jdk_42_method_55_code 1 (some .boolean) [] ({ frames := 0, cells := 0, slots := 0, locals := 0 } : Room) #[(.ref x0)] h0 (fun v h L => v = some (.int (1 : Int32)) ∧ L = [] ∧ h = h0) := by
  refine own_body (plainFor_of_name pn_3) (fun m => ef_ise0 m x0) ?_
  intro p e s m below meth c s₁ X0 hx hby hml hown hnm hret hlk hZ e0
  replace hown : s.vm.findClass "java/lang/String" = some m.cls := hown
  replace hml : c.maxLocals = 1 := hml
  show Ends p.tables e below _ (s₁.setTop (mkF m 0 #[.val (.ref x0)] []))
  refine own_aloadN X0 hx hby d2_0 rfl rfl rfl ?_
  refine own_getfield X0 hx hby hZ hown (host := "") (Or.inl (hw _ tw_19)) Via.refl e0 Fv d2_1 rfl (fun T99 X99 e99 => ?_)
  refine own_arraylength X99 hx hby hZ e99 Vb d2_4 rfl ?_
  refine own_if_ne X99 hx hby d2_5 (pcY := 12) (pcN := 8) (by decide) rfl (fun (hc100 : ¬ nb = (0 : Int32)) => False.elim (by exact hc100 hne)) (fun (hc100 : nb = (0 : Int32)) => ?_)
  refine own_iconst X99 hx hby d2_8 rfl (1 : Int32) rfl ?_
  refine own_goto X99 hx hby d2_9 (pc' := 13) (by decide) ?_
  refine own_ret X99 hx hby hret hlk d2_13 (.int (1 : Int32)) rfl (Or.inl ⟨rfl, by simp, _, rfl⟩) (by decide) (by decide) ?_
  exact ⟨rfl, rfl, e99⟩
set_option maxRecDepth 65536 in
set_option maxHeartbeats 40000000 in
theorem rmise1 (l : Launch) (Z : State) (a0 : Array Value) (hw : ∀ d ∈ tables_1, d.before a0 Z = true) (x0 : Addr) (h0 : Heap) {ks : Int32} {fm : Value} (G : OwnGl Z ks fm) (O : Ext Z.heap h0) {b1 : Addr} {k1 : ClassId} {nb : Int32} {vs : List Value} (E : Exa Z h0 x0 "java/lang/String") {cc : Int32} (Fc : Fld Z h0 x0 "java/lang/String" "coder" "B" (.int cc)) (Fv : Fld Z h0 x0 "java/lang/String" "value" "[B" (.ref b1)) (Vb : Arv Z h0 b1 k1 .byte nb vs (.int 0)) (hne : ¬ nb = 0) :
    OwnMet l Z (⟨"java/lang/String", "isEmpty", "()Z"⟩ : MethodName) jdk_42_method_55_code 1 (some .boolean) [] ({ frames := 0, cells := 0, slots := 0, locals := 0 } : Room) #[(.ref x0)] h0 (fun v h L => v = some (.int (0 : Int32)) ∧ L = [] ∧ h = h0) := by
  refine own_body (plainFor_of_name pn_3) (fun m => ef_ise1 m x0) ?_
  intro p e s m below meth c s₁ X0 hx hby hml hown hnm hret hlk hZ e0
  replace hown : s.vm.findClass "java/lang/String" = some m.cls := hown
  replace hml : c.maxLocals = 1 := hml
  show Ends p.tables e below _ (s₁.setTop (mkF m 0 #[.val (.ref x0)] []))
  refine own_aloadN X0 hx hby d2_0 rfl rfl rfl ?_
  refine own_getfield X0 hx hby hZ hown (host := "") (Or.inl (hw _ tw_19)) Via.refl e0 Fv d2_1 rfl (fun T101 X101 e101 => ?_)
  refine own_arraylength X101 hx hby hZ e101 Vb d2_4 rfl ?_
  refine own_if_ne X101 hx hby d2_5 (pcY := 12) (pcN := 8) (by decide) rfl (fun (hc102 : ¬ nb = (0 : Int32)) => ?_) (fun (hc102 : nb = (0 : Int32)) => False.elim (by exact hne hc102))
  refine own_iconst X101 hx hby d2_12 rfl (0 : Int32) rfl ?_
  refine own_ret X101 hx hby hret hlk d2_13 (.int (0 : Int32)) rfl (Or.inl ⟨rfl, by simp, _, rfl⟩) (by decide) (by decide) ?_
  exact ⟨rfl, rfl, e101⟩
set_option maxRecDepth 65536 in
set_option maxHeartbeats 40000000 in
theorem rmcha0 (l : Launch) (Z : State) (a0 : Array Value) (hw : ∀ d ∈ tables_1, d.before a0 Z = true) (x0 : Addr) (x1 : Int32) (h0 : Heap) {ks : Int32} {fm : Value} (G : OwnGl Z ks fm) (O : Ext Z.heap h0) {b1 : Addr} {k1 : ClassId} {nb : Int32} {vs : List Value} (E : Exa Z h0 x0 "java/lang/String") (Fc : Fld Z h0 x0 "java/lang/String" "coder" "B" (.int (0 : Int32))) (Fv : Fld Z h0 x0 "java/lang/String" "value" "[B" (.ref b1)) (Vb : Arv Z h0 b1 k1 .byte nb vs (.int 0)) {z : Int32} (hz : vs.getD x1.toNatClampNeg (.int 0) = .int z) (h1 : 0 ≤ x1.toInt) (h2 : x1.toInt < nb.toInt) :
    OwnMet l Z (⟨"java/lang/String", "charAt", "(I)C"⟩ : MethodName) jdk_42_method_56_code 2 (some .char) [] ({ frames := 3, cells := 0, slots := 0, locals := 40 } : Room) #[(.ref x0), (.int x1)] h0 (fun v h L => v = some (.int (z &&& (255 : Int32))) ∧ L = [] ∧ h = h0) := by
  refine own_body (plainFor_of_name pn_3) (fun m => ef_cha0 m x0 x1) ?_
  intro p e s m below meth c s₁ X0 hx hby hml hown hnm hret hlk hZ e0
  replace hown : s.vm.findClass "java/lang/String" = some m.cls := hown
  replace hml : c.maxLocals = 2 := hml
  show Ends p.tables e below _ (s₁.setTop (mkF m 0 #[.val (.ref x0), .val (.int x1)] []))
  refine own_aloadN X0 hx hby d12_0 rfl rfl rfl ?_
  refine own_virtual X0 hx hby hZ (Cn := "java/lang/String") (a := x0) (argsL := []) (rest := []) hown (hw _ tw_62) (hw _ tw_63) (hw _ tw_65) (hw _ tw_64) (hw _ tw_3) (hw _ tw_66) (by decide) (rmisLatin10 l Z a0 hw x0 h0 G O E Fc Fv Vb) E e0 (by rw [hml]; rfl) pd_7 rfl (by decide) (W := 0) (Nat.le_refl _) (by decide) (by decide) (by decide) d12_1 rfl rfl (fun v103 T103 L103 X103 hQ103 => ?_)
  obtain ⟨rfl, rfl, e103⟩ := hQ103
  show Ends p.tables e below _ (T103.setTop (mkF m 4 #[.val (.ref x0), .val (.int x1)] [(.int (1 : Int32))]))
  refine own_if_eq X103 hx hby d12_4 (pcY := 16) (pcN := 7) (by decide) rfl (fun (hc104 : (1 : Int32) = (0 : Int32)) => False.elim (by exact absurd hc104 (by decide))) (fun (hc104 : ¬ (1 : Int32) = (0 : Int32)) => ?_)
  refine own_aloadN X103 hx hby d12_7 rfl rfl rfl ?_
  refine own_getfield X103 hx hby hZ hown (host := "") (Or.inl (hw _ tw_19)) Via.refl e103 Fv d12_8 rfl (fun T105 X105 e105 => ?_)
  refine own_iloadN X105 hx hby d12_11 rfl rfl ?_
  refine own_static X105 hx hby hZ (argsL := [(.ref b1), (.int x1)]) (rest := []) hown (hw _ tw_67) (hw _ tw_68) (hw _ tw_69) (hw _ tw_70) (by decide) (rmlca l Z a0 hw b1 x1 h0 G O Vb hz h1 h2) e105 (by rw [hml]; rfl) pd_5 rfl (by decide) (W := 0) (Nat.le_refl _) (by decide) (by decide) (by decide) d12_12 rfl rfl (fun v106 T106 L106 X106 hQ106 => ?_)
  obtain ⟨rfl, rfl, e106⟩ := hQ106
  show Ends p.tables e below _ (T106.setTop (mkF m 15 #[.val (.ref x0), .val (.int x1)] [(.int (z &&& (255 : Int32)))]))
  refine own_ret X106 hx hby hret hlk d12_15 (.int (z &&& (255 : Int32))) (by have q := Jvm.Free.XT.narrow_c (z &&& (255 : Int32)); rw [i2c_mask] at q; exact q) (Or.inl ⟨rfl, by simp, _, rfl⟩) (by decide) (by decide) ?_
  exact ⟨rfl, rfl, e106⟩
set_option maxRecDepth 65536 in
set_option maxHeartbeats 40000000 in
theorem rmcha1 (l : Launch) (Z : State) (a0 : Array Value) (hw : ∀ d ∈ tables_1, d.before a0 Z = true) (x0 : Addr) (x1 : Int32) (h0 : Heap) {ks : Int32} {fm : Value} (G : OwnGl Z ks fm) (O : Ext Z.heap h0) {b1 : Addr} {k1 : ClassId} {nb : Int32} {vs : List Value} (E : Exa Z h0 x0 "java/lang/String") (Fc : Fld Z h0 x0 "java/lang/String" "coder" "B" (.int (1 : Int32))) (Fv : Fld Z h0 x0 "java/lang/String" "value" "[B" (.ref b1)) (Vb : Arv Z h0 b1 k1 .byte nb vs (.int 0)) (h1 : 0 ≤ x1.toInt) (h2 : x1.toInt < (nb >>> ((1 : Int32) &&& 31)).toInt) (hj0 : ¬ (x1 <<< ((1 : Int32) &&& 31)) < 0 ∧ (x1 <<< ((1 : Int32) &&& 31)) < nb) (hj1 : ¬ (x1 <<< ((1 : Int32) &&& 31)) + 1 < 0 ∧ (x1 <<< ((1 : Int32) &&& 31)) + 1 < nb) {zp zq y : Int32} (hp : vs.getD (x1 <<< ((1 : Int32) &&& 31)).toNatClampNeg (.int 0) = .int zp) (hq : vs.getD ((x1 <<< ((1 : Int32) &&& 31)) + 1).toNatClampNeg (.int 0) = .int zq) (hy : ((zp &&& (255 : Int32)) <<< ((0 : Int32) &&& 31)) ||| ((zq &&& (255 : Int32)) <<< ((8 : Int32) &&& 31)) = y) (hyr : 0 ≤ y.toInt ∧ y.toInt < 65536) :
    OwnMet l Z (⟨"java/lang/String", "charAt", "(I)C"⟩ : MethodName) jdk_42_method_56_code 2 (some .char) [] ({ frames := 4, cells := 0, slots := 0, locals := 53 } : Room) #[(.ref x0), (.int x1)] h0 (fun v h L => v = some (.int y) ∧ L = [] ∧ h = h0) := by
  refine own_body (plainFor_of_name pn_3) (fun m => ef_cha1 m x0 x1) ?_
  intro p e s m below meth c s₁ X0 hx hby hml hown hnm hret hlk hZ e0
  replace hown : s.vm.findClass "java/lang/String" = some m.cls := hown
  replace hml : c.maxLocals = 2 := hml
  show Ends p.tables e below _ (s₁.setTop (mkF m 0 #[.val (.ref x0), .val (.int x1)] []))
  refine own_aloadN X0 hx hby d12_0 rfl rfl rfl ?_
  refine own_virtual X0 hx hby hZ (Cn := "java/lang/String") (a := x0) (argsL := []) (rest := []) hown (hw _ tw_62) (hw _ tw_63) (hw _ tw_65) (hw _ tw_64) (hw _ tw_3) (hw _ tw_66) (by decide) (rmisLatin11 l Z a0 hw x0 h0 G O E Fc Fv Vb) E e0 (by rw [hml]; rfl) pd_7 rfl (by decide) (W := 0) (Nat.le_refl _) (by decide) (by decide) (by decide) d12_1 rfl rfl (fun v107 T107 L107 X107 hQ107 => ?_)
  obtain ⟨rfl, rfl, e107⟩ := hQ107
  show Ends p.tables e below _ (T107.setTop (mkF m 4 #[.val (.ref x0), .val (.int x1)] [(.int (0 : Int32))]))
  refine own_if_eq X107 hx hby d12_4 (pcY := 16) (pcN := 7) (by decide) rfl (fun (hc108 : (0 : Int32) = (0 : Int32)) => ?_) (fun (hc108 : ¬ (0 : Int32) = (0 : Int32)) => False.elim (by exact absurd hc108 (by decide)))
  refine own_aloadN X107 hx hby d12_16 rfl rfl rfl ?_
  refine own_getfield X107 hx hby hZ hown (host := "") (Or.inl (hw _ tw_19)) Via.refl e107 Fv d12_17 rfl (fun T109 X109 e109 => ?_)
  refine own_iloadN X109 hx hby d12_20 rfl rfl ?_
  refine own_static X109 hx hby hZ (argsL := [(.ref b1), (.int x1)]) (rest := []) hown (hw _ tw_104) (hw _ tw_105) (hw _ tw_34) (hw _ tw_106) (by decide) (rmuca l Z a0 hw b1 x1 h0 G O Vb h1 h2 hj0 hj1 hp hq hy hyr) e109 (by rw [hml]; rfl) pd_5 rfl (by decide) (W := 0) (Nat.le_refl _) (by decide) (by decide) (by decide) d12_21 rfl rfl (fun v110 T110 L110 X110 hQ110 => ?_)
  obtain ⟨rfl, rfl, e110⟩ := hQ110
  show Ends p.tables e below _ (T110.setTop (mkF m 24 #[.val (.ref x0), .val (.int x1)] [(.int y)]))
  refine own_ret X110 hx hby hret hlk d12_24 (.int y) (own_narc hyr) (Or.inl ⟨rfl, by simp, _, rfl⟩) (by decide) (by decide) ?_
  exact ⟨rfl, rfl, e110⟩
set_option maxRecDepth 65536 in
set_option maxHeartbeats 40000000 in
theorem rmvnull (l : Launch) (Z : State) (a0 : Array Value) (hw : ∀ d ∈ tables_1, d.before a0 Z = true)  (h0 : Heap) :
    OwnMet l Z (⟨"com/example/uni_errors/unierrors/CorrelationHeaders", "isValidId", "(Ljava/lang/String;)Z"⟩ : MethodName) prog_5_method_6_code 2 (some .boolean) [] ({ frames := 5, cells := 0, slots := 0, locals := 68 } : Room) #[.null] h0 (fun v h L => v = some (.int 0) ∧ L = [] ∧ h = h0) := by
  refine own_body (plainFor_of_name pn_1) (fun m => ef_vnull m ) ?_
  intro p e s m below meth c s₁ X0 hx hby hml hown hnm hret hlk hZ e0
  replace hown : s.vm.findClass "com/example/uni_errors/unierrors/CorrelationHeaders" = some m.cls := hown
  replace hml : c.maxLocals = 2 := hml
  show Ends p.tables e below _ (s₁.setTop (mkF m 0 #[.val .null, .unset] []))
  refine own_aloadN X0 hx hby d1_0 rfl rfl rfl ?_
  refine own_ifnullYes X0 hx hby d1_1 (pcY := 21) (by decide) ?_
  refine own_iconst X0 hx hby d1_21 rfl (0 : Int32) rfl ?_
  refine own_ret X0 hx hby hret hlk d1_22 (.int (0 : Int32)) rfl (Or.inl ⟨rfl, by simp, _, rfl⟩) (by decide) (by decide) ?_
  exact ⟨rfl, rfl, e0⟩
set_option maxRecDepth 65536 in
set_option maxHeartbeats 40000000 in
theorem rmv0_1 (l : Launch) (Z : State) (a0 : Array Value) (hw : ∀ d ∈ tables_1, d.before a0 Z = true) (x0 : Addr) (h0 : Heap) {ks : Int32} {fm : Value} (G : OwnGl Z ks fm) (O : Ext Z.heap h0) {y0 : Int32} (hr0 : 0 ≤ y0.toInt ∧ y0.toInt ≤ 255) {b1 : Addr} {k1 : ClassId} (E : Exa Z h0 x0 "java/lang/String") (Fc : Fld Z h0 x0 "java/lang/String" "coder" "B" (.int (0 : Int32))) (Fv : Fld Z h0 x0 "java/lang/String" "value" "[B" (.ref b1)) (Vb : Arv Z h0 b1 k1 .byte (1 : Int32) [.int y0.toInt8.toInt32] (.int 0)) :
    OwnMet l Z (⟨"com/example/uni_errors/unierrors/CorrelationHeaders", "isValidId", "(Ljava/lang/String;)Z"⟩ : MethodName) prog_5_method_6_code 2 (some .boolean) [] ({ frames := 5, cells := 0, slots := 0, locals := 68 } : Room) #[(.ref x0)] h0 (fun v h L => v = some (.int (own_all [y0])) ∧ L = [] ∧ h = h0) := by
  refine own_body (plainFor_of_name pn_1) (fun m => ef_v0_1 m x0) ?_
  intro p e s m below meth c s₁ X0 hx hby hml hown hnm hret hlk hZ e0
  replace hown : s.vm.findClass "com/example/uni_errors/unierrors/CorrelationHeaders" = some m.cls := hown
  replace hml : c.maxLocals = 2 := hml
  show Ends p.tables e below _ (s₁.setTop (mkF m 0 #[.val (.ref x0), .unset] []))
  have i0 : (0 : Int32).toInt = 0 := rfl
  have i128 : (128 : Int32).toInt = 128 := rfl
  show Ends p.tables e below _ (s₁.setTop (mkF m 0 #[.val (.ref x0), .unset] []))
  refine own_aloadN X0 hx hby d1_0 rfl rfl rfl ?_
  refine own_ifnullNo X0 hx hby d1_1 rfl ?_
  refine own_aloadN X0 hx hby d1_4 rfl rfl rfl ?_
  refine own_virtual X0 hx hby hZ (Cn := "java/lang/String") (a := x0) (argsL := []) (rest := []) hown (hw _ tw_14) (hw _ tw_15) (hw _ tw_17) (hw _ tw_16) (hw _ tw_3) (hw _ tw_18) (by decide) (rmise1 l Z a0 hw x0 h0 G O E Fc Fv Vb (by decide)) E e0 (by rw [hml]; rfl) pd_7 rfl (by decide) (W := 0) (Nat.le_refl _) (by decide) (by decide) (by decide) d1_5 rfl rfl (fun v111 T111 L111 X111 hQ111 => ?_)
  obtain ⟨rfl, rfl, e111⟩ := hQ111
  show Ends p.tables e below _ (T111.setTop (mkF m 8 #[.val (.ref x0), .unset] [(.int (0 : Int32))]))
  refine own_if_ne X111 hx hby d1_8 (pcY := 21) (pcN := 11) (by decide) rfl (fun (hc112 : ¬ (0 : Int32) = (0 : Int32)) => False.elim (by exact absurd hc112 (by decide))) (fun (hc112 : (0 : Int32) = (0 : Int32)) => ?_)
  refine own_aloadN X111 hx hby d1_11 rfl rfl rfl ?_
  refine own_virtual X111 hx hby hZ (Cn := "java/lang/String") (a := x0) (argsL := []) (rest := []) hown (hw _ tw_47) (hw _ tw_48) (hw _ tw_50) (hw _ tw_49) (hw _ tw_3) (hw _ tw_51) (by decide) (rmlength0 l Z a0 hw x0 h0 G O E Fc Fv Vb) E e111 (by rw [hml]; rfl) pd_8 rfl (by decide) (W := 0) (Nat.le_refl _) (by decide) (by decide) (by decide) d1_12 rfl rfl (fun v113 T113 L113 X113 hQ113 => ?_)
  obtain ⟨rfl, rfl, e113⟩ := hQ113
  show Ends p.tables e below _ (T113.setTop (mkF m 15 #[.val (.ref x0), .unset] [(.int ((1 : Int32) >>> ((0 : Int32) &&& 31)))]))
  show Ends p.tables e below _ (T113.setTop (mkF m 15 #[.val (.ref x0), .unset] [(.int (1 : Int32))]))
  refine own_sipush X113 hx hby d1_15 rfl (128 : Int32) rfl ?_
  refine own_icmp_le X113 hx hby d1_18 (pcY := 23) (pcN := 21) (by decide) rfl (fun (hc114 : 1 ≤ 128) => ?_) (fun (hc114 : 128 < 1) => False.elim (by exact absurd hc114 (by decide)))
  refine own_iconst X113 hx hby d1_23 rfl (0 : Int32) rfl ?_
  refine own_istoreN X113 hx hby d1_24 rfl #[.val (.ref x0), .val (.int (0 : Int32))] rfl ?_
  refine own_iloadN X113 hx hby d1_25 rfl rfl ?_
  refine own_aloadN X113 hx hby d1_26 rfl rfl rfl ?_
  refine own_virtual X113 hx hby hZ (Cn := "java/lang/String") (a := x0) (argsL := []) (rest := [(.int (0 : Int32))]) hown (hw _ tw_47) (hw _ tw_48) (hw _ tw_50) (hw _ tw_49) (hw _ tw_3) (hw _ tw_51) (by decide) (rmlength0 l Z a0 hw x0 h0 G O E Fc Fv Vb) E e113 (by rw [hml]; rfl) pd_8 rfl (by decide) (W := 1) (Nat.le_refl _) (by decide) (by decide) (by decide) d1_27 rfl rfl (fun v115 T115 L115 X115 hQ115 => ?_)
  obtain ⟨rfl, rfl, e115⟩ := hQ115
  show Ends p.tables e below _ (T115.setTop (mkF m 30 #[.val (.ref x0), .val (.int (0 : Int32))] [(.int ((1 : Int32) >>> ((0 : Int32) &&& 31))), (.int (0 : Int32))]))
  show Ends p.tables e below _ (T115.setTop (mkF m 30 #[.val (.ref x0), .val (.int (0 : Int32))] [(.int (1 : Int32)), (.int (0 : Int32))]))
  refine own_icmp_ge X115 hx hby d1_30 (pcY := 52) (pcN := 33) (by decide) rfl (fun (hc116 : 1 ≤ 0) => False.elim (by exact absurd hc116 (by decide))) (fun (hc116 : 0 < 1) => ?_)
  refine own_aloadN X115 hx hby d1_33 rfl rfl rfl ?_
  refine own_iloadN X115 hx hby d1_34 rfl rfl ?_
  refine own_virtual X115 hx hby hZ (Cn := "java/lang/String") (a := x0) (argsL := [(.int (0 : Int32))]) (rest := []) hown (hw _ tw_57) (hw _ tw_58) (hw _ tw_60) (hw _ tw_59) (hw _ tw_3) (hw _ tw_61) (by decide) (rmcha0 l Z a0 hw x0 (0 : Int32) h0 G O E Fc Fv Vb (z := y0.toInt8.toInt32) rfl (by decide) (by decide)) E e115 (by rw [hml]; rfl) pd_9 rfl (by decide) (W := 0) (Nat.le_refl _) (by decide) (by decide) (by decide) d1_35 rfl rfl (fun v117 T117 L117 X117 hQ117 => ?_)
  obtain ⟨rfl, rfl, e117⟩ := hQ117
  rw [own_lat hr0]
  show Ends p.tables e below _ (T117.setTop (mkF m 38 #[.val (.ref x0), .val (.int (0 : Int32))] [(.int y0)]))
  refine own_static X117 hx hby hZ (argsL := [(.int y0)]) (rest := []) hown (hw _ tw_79) (hw _ tw_80) (hw _ tw_12) (hw _ tw_81) (by decide) (rm17 l Z a0 hw y0 h0) e117 (by rw [hml]; rfl) pd_0 rfl (by decide) (W := 0) (Nat.le_refl _) (by decide) (by decide) (by decide) d1_38 rfl rfl (fun v118 T118 L118 X118 hQ118 => ?_)
  obtain ⟨rfl, rfl, e118⟩ := hQ118
  show Ends p.tables e below _ (T118.setTop (mkF m 41 #[.val (.ref x0), .val (.int (0 : Int32))] [(.int (own_ok y0))]))
  refine own_if_ne X118 hx hby d1_41 (pcY := 46) (pcN := 44) (by decide) rfl (fun (hc119 : ¬ (own_ok y0) = (0 : Int32)) => ?_) (fun (hc119 : (own_ok y0) = (0 : Int32)) => ?_)
  · -- pc 41: t
    refine own_iinc X118 hx hby d1_46 rfl (1 : Int32) rfl #[.val (.ref x0), .val (.int (1 : Int32))] rfl rfl ?_
    refine own_goto X118 hx hby d1_49 (pc' := 25) (by decide) ?_
    refine own_iloadN X118 hx hby d1_25 rfl rfl ?_
    refine own_aloadN X118 hx hby d1_26 rfl rfl rfl ?_
    refine own_virtual X118 hx hby hZ (Cn := "java/lang/String") (a := x0) (argsL := []) (rest := [(.int (1 : Int32))]) hown (hw _ tw_47) (hw _ tw_48) (hw _ tw_50) (hw _ tw_49) (hw _ tw_3) (hw _ tw_51) (by decide) (rmlength0 l Z a0 hw x0 h0 G O E Fc Fv Vb) E e118 (by rw [hml]; rfl) pd_8 rfl (by decide) (W := 1) (Nat.le_refl _) (by decide) (by decide) (by decide) d1_27 rfl rfl (fun v120 T120 L120 X120 hQ120 => ?_)
    obtain ⟨rfl, rfl, e120⟩ := hQ120
    show Ends p.tables e below _ (T120.setTop (mkF m 30 #[.val (.ref x0), .val (.int (1 : Int32))] [(.int ((1 : Int32) >>> ((0 : Int32) &&& 31))), (.int (1 : Int32))]))
    show Ends p.tables e below _ (T120.setTop (mkF m 30 #[.val (.ref x0), .val (.int (1 : Int32))] [(.int (1 : Int32)), (.int (1 : Int32))]))
    refine own_icmp_ge X120 hx hby d1_30 (pcY := 52) (pcN := 33) (by decide) rfl (fun (hc121 : 1 ≤ 1) => ?_) (fun (hc121 : 1 < 1) => False.elim (by exact absurd hc121 (by decide)))
    refine own_iconst X120 hx hby d1_52 rfl (1 : Int32) rfl ?_
    refine own_ret X120 hx hby hret hlk d1_53 (.int (1 : Int32)) rfl (Or.inl ⟨rfl, by simp, _, rfl⟩) (by decide) (by decide) ?_
    exact ⟨congrArg (fun z => some (Value.int z)) (by rw [own_all1 hc119]; rfl), rfl, e120⟩
  · -- pc 41: f
    refine own_iconst X118 hx hby d1_44 rfl (0 : Int32) rfl ?_
    refine own_ret X118 hx hby hret hlk d1_45 (.int (0 : Int32)) rfl (Or.inl ⟨rfl, by simp, _, rfl⟩) (by decide) (by decide) ?_
    exact ⟨congrArg (fun z => some (Value.int z)) (by rw [own_all0 hc119]), rfl, e118⟩
set_option maxRecDepth 65536 in
set_option maxHeartbeats 40000000 in
theorem rmv1_1 (l : Launch) (Z : State) (a0 : Array Value) (hw : ∀ d ∈ tables_1, d.before a0 Z = true) (x0 : Addr) (h0 : Heap) {ks : Int32} {fm : Value} (G : OwnGl Z ks fm) (O : Ext Z.heap h0) {y0 : Int32} (hr0 : 0 ≤ y0.toInt ∧ y0.toInt < 65536) {b1 : Addr} {k1 : ClassId} (E : Exa Z h0 x0 "java/lang/String") (Fc : Fld Z h0 x0 "java/lang/String" "coder" "B" (.int (1 : Int32))) (Fv : Fld Z h0 x0 "java/lang/String" "value" "[B" (.ref b1)) (Vb : Arv Z h0 b1 k1 .byte (2 : Int32) [.int (y0 >>> ((0 : Int32) &&& 31)).toInt8.toInt32, .int (y0 >>> ((8 : Int32) &&& 31)).toInt8.toInt32] (.int 0)) :
    OwnMet l Z (⟨"com/example/uni_errors/unierrors/CorrelationHeaders", "isValidId", "(Ljava/lang/String;)Z"⟩ : MethodName) prog_5_method_6_code 2 (some .boolean) [] ({ frames := 5, cells := 0, slots := 0, locals := 68 } : Room) #[(.ref x0)] h0 (fun v h L => v = some (.int (own_all [y0])) ∧ L = [] ∧ h = h0) := by
  refine own_body (plainFor_of_name pn_1) (fun m => ef_v1_1 m x0) ?_
  intro p e s m below meth c s₁ X0 hx hby hml hown hnm hret hlk hZ e0
  replace hown : s.vm.findClass "com/example/uni_errors/unierrors/CorrelationHeaders" = some m.cls := hown
  replace hml : c.maxLocals = 2 := hml
  show Ends p.tables e below _ (s₁.setTop (mkF m 0 #[.val (.ref x0), .unset] []))
  have i0 : (0 : Int32).toInt = 0 := rfl
  have i128 : (128 : Int32).toInt = 128 := rfl
  show Ends p.tables e below _ (s₁.setTop (mkF m 0 #[.val (.ref x0), .unset] []))
  refine own_aloadN X0 hx hby d1_0 rfl rfl rfl ?_
  refine own_ifnullNo X0 hx hby d1_1 rfl ?_
  refine own_aloadN X0 hx hby d1_4 rfl rfl rfl ?_
  refine own_virtual X0 hx hby hZ (Cn := "java/lang/String") (a := x0) (argsL := []) (rest := []) hown (hw _ tw_14) (hw _ tw_15) (hw _ tw_17) (hw _ tw_16) (hw _ tw_3) (hw _ tw_18) (by decide) (rmise1 l Z a0 hw x0 h0 G O E Fc Fv Vb (by decide)) E e0 (by rw [hml]; rfl) pd_7 rfl (by decide) (W := 0) (Nat.le_refl _) (by decide) (by decide) (by decide) d1_5 rfl rfl (fun v122 T122 L122 X122 hQ122 => ?_)
  obtain ⟨rfl, rfl, e122⟩ := hQ122
  show Ends p.tables e below _ (T122.setTop (mkF m 8 #[.val (.ref x0), .unset] [(.int (0 : Int32))]))
  refine own_if_ne X122 hx hby d1_8 (pcY := 21) (pcN := 11) (by decide) rfl (fun (hc123 : ¬ (0 : Int32) = (0 : Int32)) => False.elim (by exact absurd hc123 (by decide))) (fun (hc123 : (0 : Int32) = (0 : Int32)) => ?_)
  refine own_aloadN X122 hx hby d1_11 rfl rfl rfl ?_
  refine own_virtual X122 hx hby hZ (Cn := "java/lang/String") (a := x0) (argsL := []) (rest := []) hown (hw _ tw_47) (hw _ tw_48) (hw _ tw_50) (hw _ tw_49) (hw _ tw_3) (hw _ tw_51) (by decide) (rmlength1 l Z a0 hw x0 h0 G O E Fc Fv Vb) E e122 (by rw [hml]; rfl) pd_8 rfl (by decide) (W := 0) (Nat.le_refl _) (by decide) (by decide) (by decide) d1_12 rfl rfl (fun v124 T124 L124 X124 hQ124 => ?_)
  obtain ⟨rfl, rfl, e124⟩ := hQ124
  show Ends p.tables e below _ (T124.setTop (mkF m 15 #[.val (.ref x0), .unset] [(.int ((2 : Int32) >>> ((1 : Int32) &&& 31)))]))
  show Ends p.tables e below _ (T124.setTop (mkF m 15 #[.val (.ref x0), .unset] [(.int (1 : Int32))]))
  refine own_sipush X124 hx hby d1_15 rfl (128 : Int32) rfl ?_
  refine own_icmp_le X124 hx hby d1_18 (pcY := 23) (pcN := 21) (by decide) rfl (fun (hc125 : 1 ≤ 128) => ?_) (fun (hc125 : 128 < 1) => False.elim (by exact absurd hc125 (by decide)))
  refine own_iconst X124 hx hby d1_23 rfl (0 : Int32) rfl ?_
  refine own_istoreN X124 hx hby d1_24 rfl #[.val (.ref x0), .val (.int (0 : Int32))] rfl ?_
  refine own_iloadN X124 hx hby d1_25 rfl rfl ?_
  refine own_aloadN X124 hx hby d1_26 rfl rfl rfl ?_
  refine own_virtual X124 hx hby hZ (Cn := "java/lang/String") (a := x0) (argsL := []) (rest := [(.int (0 : Int32))]) hown (hw _ tw_47) (hw _ tw_48) (hw _ tw_50) (hw _ tw_49) (hw _ tw_3) (hw _ tw_51) (by decide) (rmlength1 l Z a0 hw x0 h0 G O E Fc Fv Vb) E e124 (by rw [hml]; rfl) pd_8 rfl (by decide) (W := 1) (Nat.le_refl _) (by decide) (by decide) (by decide) d1_27 rfl rfl (fun v126 T126 L126 X126 hQ126 => ?_)
  obtain ⟨rfl, rfl, e126⟩ := hQ126
  show Ends p.tables e below _ (T126.setTop (mkF m 30 #[.val (.ref x0), .val (.int (0 : Int32))] [(.int ((2 : Int32) >>> ((1 : Int32) &&& 31))), (.int (0 : Int32))]))
  show Ends p.tables e below _ (T126.setTop (mkF m 30 #[.val (.ref x0), .val (.int (0 : Int32))] [(.int (1 : Int32)), (.int (0 : Int32))]))
  refine own_icmp_ge X126 hx hby d1_30 (pcY := 52) (pcN := 33) (by decide) rfl (fun (hc127 : 1 ≤ 0) => False.elim (by exact absurd hc127 (by decide))) (fun (hc127 : 0 < 1) => ?_)
  refine own_aloadN X126 hx hby d1_33 rfl rfl rfl ?_
  refine own_iloadN X126 hx hby d1_34 rfl rfl ?_
  refine own_virtual X126 hx hby hZ (Cn := "java/lang/String") (a := x0) (argsL := [(.int (0 : Int32))]) (rest := []) hown (hw _ tw_57) (hw _ tw_58) (hw _ tw_60) (hw _ tw_59) (hw _ tw_3) (hw _ tw_61) (by decide) (rmcha1 l Z a0 hw x0 (0 : Int32) h0 G O E Fc Fv Vb (by decide) (by decide) (by decide) (by decide) rfl rfl (own_utf hr0) hr0) E e126 (by rw [hml]; rfl) pd_9 rfl (by decide) (W := 0) (Nat.le_refl _) (by decide) (by decide) (by decide) d1_35 rfl rfl (fun v128 T128 L128 X128 hQ128 => ?_)
  obtain ⟨rfl, rfl, e128⟩ := hQ128
  show Ends p.tables e below _ (T128.setTop (mkF m 38 #[.val (.ref x0), .val (.int (0 : Int32))] [(.int y0)]))
  refine own_static X128 hx hby hZ (argsL := [(.int y0)]) (rest := []) hown (hw _ tw_79) (hw _ tw_80) (hw _ tw_12) (hw _ tw_81) (by decide) (rm17 l Z a0 hw y0 h0) e128 (by rw [hml]; rfl) pd_0 rfl (by decide) (W := 0) (Nat.le_refl _) (by decide) (by decide) (by decide) d1_38 rfl rfl (fun v129 T129 L129 X129 hQ129 => ?_)
  obtain ⟨rfl, rfl, e129⟩ := hQ129
  show Ends p.tables e below _ (T129.setTop (mkF m 41 #[.val (.ref x0), .val (.int (0 : Int32))] [(.int (own_ok y0))]))
  refine own_if_ne X129 hx hby d1_41 (pcY := 46) (pcN := 44) (by decide) rfl (fun (hc130 : ¬ (own_ok y0) = (0 : Int32)) => ?_) (fun (hc130 : (own_ok y0) = (0 : Int32)) => ?_)
  · -- pc 41: t
    refine own_iinc X129 hx hby d1_46 rfl (1 : Int32) rfl #[.val (.ref x0), .val (.int (1 : Int32))] rfl rfl ?_
    refine own_goto X129 hx hby d1_49 (pc' := 25) (by decide) ?_
    refine own_iloadN X129 hx hby d1_25 rfl rfl ?_
    refine own_aloadN X129 hx hby d1_26 rfl rfl rfl ?_
    refine own_virtual X129 hx hby hZ (Cn := "java/lang/String") (a := x0) (argsL := []) (rest := [(.int (1 : Int32))]) hown (hw _ tw_47) (hw _ tw_48) (hw _ tw_50) (hw _ tw_49) (hw _ tw_3) (hw _ tw_51) (by decide) (rmlength1 l Z a0 hw x0 h0 G O E Fc Fv Vb) E e129 (by rw [hml]; rfl) pd_8 rfl (by decide) (W := 1) (Nat.le_refl _) (by decide) (by decide) (by decide) d1_27 rfl rfl (fun v131 T131 L131 X131 hQ131 => ?_)
    obtain ⟨rfl, rfl, e131⟩ := hQ131
    show Ends p.tables e below _ (T131.setTop (mkF m 30 #[.val (.ref x0), .val (.int (1 : Int32))] [(.int ((2 : Int32) >>> ((1 : Int32) &&& 31))), (.int (1 : Int32))]))
    show Ends p.tables e below _ (T131.setTop (mkF m 30 #[.val (.ref x0), .val (.int (1 : Int32))] [(.int (1 : Int32)), (.int (1 : Int32))]))
    refine own_icmp_ge X131 hx hby d1_30 (pcY := 52) (pcN := 33) (by decide) rfl (fun (hc132 : 1 ≤ 1) => ?_) (fun (hc132 : 1 < 1) => False.elim (by exact absurd hc132 (by decide)))
    refine own_iconst X131 hx hby d1_52 rfl (1 : Int32) rfl ?_
    refine own_ret X131 hx hby hret hlk d1_53 (.int (1 : Int32)) rfl (Or.inl ⟨rfl, by simp, _, rfl⟩) (by decide) (by decide) ?_
    exact ⟨congrArg (fun z => some (Value.int z)) (by rw [own_all1 hc130]; rfl), rfl, e131⟩
  · -- pc 41: f
    refine own_iconst X129 hx hby d1_44 rfl (0 : Int32) rfl ?_
    refine own_ret X129 hx hby hret hlk d1_45 (.int (0 : Int32)) rfl (Or.inl ⟨rfl, by simp, _, rfl⟩) (by decide) (by decide) ?_
    exact ⟨congrArg (fun z => some (Value.int z)) (by rw [own_all0 hc130]), rfl, e129⟩
set_option maxRecDepth 65536 in
set_option maxHeartbeats 40000000 in
theorem rmv0_2 (l : Launch) (Z : State) (a0 : Array Value) (hw : ∀ d ∈ tables_1, d.before a0 Z = true) (x0 : Addr) (h0 : Heap) {ks : Int32} {fm : Value} (G : OwnGl Z ks fm) (O : Ext Z.heap h0) {y0 y1 : Int32} (hr0 : 0 ≤ y0.toInt ∧ y0.toInt ≤ 255) (hr1 : 0 ≤ y1.toInt ∧ y1.toInt ≤ 255) {b1 : Addr} {k1 : ClassId} (E : Exa Z h0 x0 "java/lang/String") (Fc : Fld Z h0 x0 "java/lang/String" "coder" "B" (.int (0 : Int32))) (Fv : Fld Z h0 x0 "java/lang/String" "value" "[B" (.ref b1)) (Vb : Arv Z h0 b1 k1 .byte (2 : Int32) [.int y0.toInt8.toInt32, .int y1.toInt8.toInt32] (.int 0)) :
    OwnMet l Z (⟨"com/example/uni_errors/unierrors/CorrelationHeaders", "isValidId", "(Ljava/lang/String;)Z"⟩ : MethodName) prog_5_method_6_code 2 (some .boolean) [] ({ frames := 5, cells := 0, slots := 0, locals := 68 } : Room) #[(.ref x0)] h0 (fun v h L => v = some (.int (own_all [y0, y1])) ∧ L = [] ∧ h = h0) := by
  refine own_body (plainFor_of_name pn_1) (fun m => ef_v0_2 m x0) ?_
  intro p e s m below meth c s₁ X0 hx hby hml hown hnm hret hlk hZ e0
  replace hown : s.vm.findClass "com/example/uni_errors/unierrors/CorrelationHeaders" = some m.cls := hown
  replace hml : c.maxLocals = 2 := hml
  show Ends p.tables e below _ (s₁.setTop (mkF m 0 #[.val (.ref x0), .unset] []))
  have i0 : (0 : Int32).toInt = 0 := rfl
  have i128 : (128 : Int32).toInt = 128 := rfl
  show Ends p.tables e below _ (s₁.setTop (mkF m 0 #[.val (.ref x0), .unset] []))
  refine own_aloadN X0 hx hby d1_0 rfl rfl rfl ?_
  refine own_ifnullNo X0 hx hby d1_1 rfl ?_
  refine own_aloadN X0 hx hby d1_4 rfl rfl rfl ?_
  refine own_virtual X0 hx hby hZ (Cn := "java/lang/String") (a := x0) (argsL := []) (rest := []) hown (hw _ tw_14) (hw _ tw_15) (hw _ tw_17) (hw _ tw_16) (hw _ tw_3) (hw _ tw_18) (by decide) (rmise1 l Z a0 hw x0 h0 G O E Fc Fv Vb (by decide)) E e0 (by rw [hml]; rfl) pd_7 rfl (by decide) (W := 0) (Nat.le_refl _) (by decide) (by decide) (by decide) d1_5 rfl rfl (fun v133 T133 L133 X133 hQ133 => ?_)
  obtain ⟨rfl, rfl, e133⟩ := hQ133
  show Ends p.tables e below _ (T133.setTop (mkF m 8 #[.val (.ref x0), .unset] [(.int (0 : Int32))]))
  refine own_if_ne X133 hx hby d1_8 (pcY := 21) (pcN := 11) (by decide) rfl (fun (hc134 : ¬ (0 : Int32) = (0 : Int32)) => False.elim (by exact absurd hc134 (by decide))) (fun (hc134 : (0 : Int32) = (0 : Int32)) => ?_)
  refine own_aloadN X133 hx hby d1_11 rfl rfl rfl ?_
  refine own_virtual X133 hx hby hZ (Cn := "java/lang/String") (a := x0) (argsL := []) (rest := []) hown (hw _ tw_47) (hw _ tw_48) (hw _ tw_50) (hw _ tw_49) (hw _ tw_3) (hw _ tw_51) (by decide) (rmlength0 l Z a0 hw x0 h0 G O E Fc Fv Vb) E e133 (by rw [hml]; rfl) pd_8 rfl (by decide) (W := 0) (Nat.le_refl _) (by decide) (by decide) (by decide) d1_12 rfl rfl (fun v135 T135 L135 X135 hQ135 => ?_)
  obtain ⟨rfl, rfl, e135⟩ := hQ135
  show Ends p.tables e below _ (T135.setTop (mkF m 15 #[.val (.ref x0), .unset] [(.int ((2 : Int32) >>> ((0 : Int32) &&& 31)))]))
  show Ends p.tables e below _ (T135.setTop (mkF m 15 #[.val (.ref x0), .unset] [(.int (2 : Int32))]))
  refine own_sipush X135 hx hby d1_15 rfl (128 : Int32) rfl ?_
  refine own_icmp_le X135 hx hby d1_18 (pcY := 23) (pcN := 21) (by decide) rfl (fun (hc136 : 2 ≤ 128) => ?_) (fun (hc136 : 128 < 2) => False.elim (by exact absurd hc136 (by decide)))
  refine own_iconst X135 hx hby d1_23 rfl (0 : Int32) rfl ?_
  refine own_istoreN X135 hx hby d1_24 rfl #[.val (.ref x0), .val (.int (0 : Int32))] rfl ?_
  refine own_iloadN X135 hx hby d1_25 rfl rfl ?_
  refine own_aloadN X135 hx hby d1_26 rfl rfl rfl ?_
  refine own_virtual X135 hx hby hZ (Cn := "java/lang/String") (a := x0) (argsL := []) (rest := [(.int (0 : Int32))]) hown (hw _ tw_47) (hw _ tw_48) (hw _ tw_50) (hw _ tw_49) (hw _ tw_3) (hw _ tw_51) (by decide) (rmlength0 l Z a0 hw x0 h0 G O E Fc Fv Vb) E e135 (by rw [hml]; rfl) pd_8 rfl (by decide) (W := 1) (Nat.le_refl _) (by decide) (by decide) (by decide) d1_27 rfl rfl (fun v137 T137 L137 X137 hQ137 => ?_)
  obtain ⟨rfl, rfl, e137⟩ := hQ137
  show Ends p.tables e below _ (T137.setTop (mkF m 30 #[.val (.ref x0), .val (.int (0 : Int32))] [(.int ((2 : Int32) >>> ((0 : Int32) &&& 31))), (.int (0 : Int32))]))
  show Ends p.tables e below _ (T137.setTop (mkF m 30 #[.val (.ref x0), .val (.int (0 : Int32))] [(.int (2 : Int32)), (.int (0 : Int32))]))
  refine own_icmp_ge X137 hx hby d1_30 (pcY := 52) (pcN := 33) (by decide) rfl (fun (hc138 : 2 ≤ 0) => False.elim (by exact absurd hc138 (by decide))) (fun (hc138 : 0 < 2) => ?_)
  refine own_aloadN X137 hx hby d1_33 rfl rfl rfl ?_
  refine own_iloadN X137 hx hby d1_34 rfl rfl ?_
  refine own_virtual X137 hx hby hZ (Cn := "java/lang/String") (a := x0) (argsL := [(.int (0 : Int32))]) (rest := []) hown (hw _ tw_57) (hw _ tw_58) (hw _ tw_60) (hw _ tw_59) (hw _ tw_3) (hw _ tw_61) (by decide) (rmcha0 l Z a0 hw x0 (0 : Int32) h0 G O E Fc Fv Vb (z := y0.toInt8.toInt32) rfl (by decide) (by decide)) E e137 (by rw [hml]; rfl) pd_9 rfl (by decide) (W := 0) (Nat.le_refl _) (by decide) (by decide) (by decide) d1_35 rfl rfl (fun v139 T139 L139 X139 hQ139 => ?_)
  obtain ⟨rfl, rfl, e139⟩ := hQ139
  rw [own_lat hr0]
  show Ends p.tables e below _ (T139.setTop (mkF m 38 #[.val (.ref x0), .val (.int (0 : Int32))] [(.int y0)]))
  refine own_static X139 hx hby hZ (argsL := [(.int y0)]) (rest := []) hown (hw _ tw_79) (hw _ tw_80) (hw _ tw_12) (hw _ tw_81) (by decide) (rm17 l Z a0 hw y0 h0) e139 (by rw [hml]; rfl) pd_0 rfl (by decide) (W := 0) (Nat.le_refl _) (by decide) (by decide) (by decide) d1_38 rfl rfl (fun v140 T140 L140 X140 hQ140 => ?_)
  obtain ⟨rfl, rfl, e140⟩ := hQ140
  show Ends p.tables e below _ (T140.setTop (mkF m 41 #[.val (.ref x0), .val (.int (0 : Int32))] [(.int (own_ok y0))]))
  refine own_if_ne X140 hx hby d1_41 (pcY := 46) (pcN := 44) (by decide) rfl (fun (hc141 : ¬ (own_ok y0) = (0 : Int32)) => ?_) (fun (hc141 : (own_ok y0) = (0 : Int32)) => ?_)
  · -- pc 41: t
    refine own_iinc X140 hx hby d1_46 rfl (1 : Int32) rfl #[.val (.ref x0), .val (.int (1 : Int32))] rfl rfl ?_
    refine own_goto X140 hx hby d1_49 (pc' := 25) (by decide) ?_
    refine own_iloadN X140 hx hby d1_25 rfl rfl ?_
    refine own_aloadN X140 hx hby d1_26 rfl rfl rfl ?_
    refine own_virtual X140 hx hby hZ (Cn := "java/lang/String") (a := x0) (argsL := []) (rest := [(.int (1 : Int32))]) hown (hw _ tw_47) (hw _ tw_48) (hw _ tw_50) (hw _ tw_49) (hw _ tw_3) (hw _ tw_51) (by decide) (rmlength0 l Z a0 hw x0 h0 G O E Fc Fv Vb) E e140 (by rw [hml]; rfl) pd_8 rfl (by decide) (W := 1) (Nat.le_refl _) (by decide) (by decide) (by decide) d1_27 rfl rfl (fun v142 T142 L142 X142 hQ142 => ?_)
    obtain ⟨rfl, rfl, e142⟩ := hQ142
    show Ends p.tables e below _ (T142.setTop (mkF m 30 #[.val (.ref x0), .val (.int (1 : Int32))] [(.int ((2 : Int32) >>> ((0 : Int32) &&& 31))), (.int (1 : Int32))]))
    show Ends p.tables e below _ (T142.setTop (mkF m 30 #[.val (.ref x0), .val (.int (1 : Int32))] [(.int (2 : Int32)), (.int (1 : Int32))]))
    refine own_icmp_ge X142 hx hby d1_30 (pcY := 52) (pcN := 33) (by decide) rfl (fun (hc143 : 2 ≤ 1) => False.elim (by exact absurd hc143 (by decide))) (fun (hc143 : 1 < 2) => ?_)
    refine own_aloadN X142 hx hby d1_33 rfl rfl rfl ?_
    refine own_iloadN X142 hx hby d1_34 rfl rfl ?_
    refine own_virtual X142 hx hby hZ (Cn := "java/lang/String") (a := x0) (argsL := [(.int (1 : Int32))]) (rest := []) hown (hw _ tw_57) (hw _ tw_58) (hw _ tw_60) (hw _ tw_59) (hw _ tw_3) (hw _ tw_61) (by decide) (rmcha0 l Z a0 hw x0 (1 : Int32) h0 G O E Fc Fv Vb (z := y1.toInt8.toInt32) rfl (by decide) (by decide)) E e142 (by rw [hml]; rfl) pd_9 rfl (by decide) (W := 0) (Nat.le_refl _) (by decide) (by decide) (by decide) d1_35 rfl rfl (fun v144 T144 L144 X144 hQ144 => ?_)
    obtain ⟨rfl, rfl, e144⟩ := hQ144
    rw [own_lat hr1]
    show Ends p.tables e below _ (T144.setTop (mkF m 38 #[.val (.ref x0), .val (.int (1 : Int32))] [(.int y1)]))
    refine own_static X144 hx hby hZ (argsL := [(.int y1)]) (rest := []) hown (hw _ tw_79) (hw _ tw_80) (hw _ tw_12) (hw _ tw_81) (by decide) (rm17 l Z a0 hw y1 h0) e144 (by rw [hml]; rfl) pd_0 rfl (by decide) (W := 0) (Nat.le_refl _) (by decide) (by decide) (by decide) d1_38 rfl rfl (fun v145 T145 L145 X145 hQ145 => ?_)
    obtain ⟨rfl, rfl, e145⟩ := hQ145
    show Ends p.tables e below _ (T145.setTop (mkF m 41 #[.val (.ref x0), .val (.int (1 : Int32))] [(.int (own_ok y1))]))
    refine own_if_ne X145 hx hby d1_41 (pcY := 46) (pcN := 44) (by decide) rfl (fun (hc146 : ¬ (own_ok y1) = (0 : Int32)) => ?_) (fun (hc146 : (own_ok y1) = (0 : Int32)) => ?_)
    · -- pc 41: t
      refine own_iinc X145 hx hby d1_46 rfl (1 : Int32) rfl #[.val (.ref x0), .val (.int (2 : Int32))] rfl rfl ?_
      refine own_goto X145 hx hby d1_49 (pc' := 25) (by decide) ?_
      refine own_iloadN X145 hx hby d1_25 rfl rfl ?_
      refine own_aloadN X145 hx hby d1_26 rfl rfl rfl ?_
      refine own_virtual X145 hx hby hZ (Cn := "java/lang/String") (a := x0) (argsL := []) (rest := [(.int (2 : Int32))]) hown (hw _ tw_47) (hw _ tw_48) (hw _ tw_50) (hw _ tw_49) (hw _ tw_3) (hw _ tw_51) (by decide) (rmlength0 l Z a0 hw x0 h0 G O E Fc Fv Vb) E e145 (by rw [hml]; rfl) pd_8 rfl (by decide) (W := 1) (Nat.le_refl _) (by decide) (by decide) (by decide) d1_27 rfl rfl (fun v147 T147 L147 X147 hQ147 => ?_)
      obtain ⟨rfl, rfl, e147⟩ := hQ147
      show Ends p.tables e below _ (T147.setTop (mkF m 30 #[.val (.ref x0), .val (.int (2 : Int32))] [(.int ((2 : Int32) >>> ((0 : Int32) &&& 31))), (.int (2 : Int32))]))
      show Ends p.tables e below _ (T147.setTop (mkF m 30 #[.val (.ref x0), .val (.int (2 : Int32))] [(.int (2 : Int32)), (.int (2 : Int32))]))
      refine own_icmp_ge X147 hx hby d1_30 (pcY := 52) (pcN := 33) (by decide) rfl (fun (hc148 : 2 ≤ 2) => ?_) (fun (hc148 : 2 < 2) => False.elim (by exact absurd hc148 (by decide)))
      refine own_iconst X147 hx hby d1_52 rfl (1 : Int32) rfl ?_
      refine own_ret X147 hx hby hret hlk d1_53 (.int (1 : Int32)) rfl (Or.inl ⟨rfl, by simp, _, rfl⟩) (by decide) (by decide) ?_
      exact ⟨congrArg (fun z => some (Value.int z)) (by rw [own_all1 hc141, own_all1 hc146]; rfl), rfl, e147⟩
    · -- pc 41: f
      refine own_iconst X145 hx hby d1_44 rfl (0 : Int32) rfl ?_
      refine own_ret X145 hx hby hret hlk d1_45 (.int (0 : Int32)) rfl (Or.inl ⟨rfl, by simp, _, rfl⟩) (by decide) (by decide) ?_
      exact ⟨congrArg (fun z => some (Value.int z)) (by rw [own_all1 hc141, own_all0 hc146]), rfl, e145⟩
  · -- pc 41: f
    refine own_iconst X140 hx hby d1_44 rfl (0 : Int32) rfl ?_
    refine own_ret X140 hx hby hret hlk d1_45 (.int (0 : Int32)) rfl (Or.inl ⟨rfl, by simp, _, rfl⟩) (by decide) (by decide) ?_
    exact ⟨congrArg (fun z => some (Value.int z)) (by rw [own_all0 hc141]), rfl, e140⟩
set_option maxRecDepth 65536 in
set_option maxHeartbeats 40000000 in
theorem rmv1_2 (l : Launch) (Z : State) (a0 : Array Value) (hw : ∀ d ∈ tables_1, d.before a0 Z = true) (x0 : Addr) (h0 : Heap) {ks : Int32} {fm : Value} (G : OwnGl Z ks fm) (O : Ext Z.heap h0) {y0 y1 : Int32} (hr0 : 0 ≤ y0.toInt ∧ y0.toInt < 65536) (hr1 : 0 ≤ y1.toInt ∧ y1.toInt < 65536) {b1 : Addr} {k1 : ClassId} (E : Exa Z h0 x0 "java/lang/String") (Fc : Fld Z h0 x0 "java/lang/String" "coder" "B" (.int (1 : Int32))) (Fv : Fld Z h0 x0 "java/lang/String" "value" "[B" (.ref b1)) (Vb : Arv Z h0 b1 k1 .byte (4 : Int32) [.int (y0 >>> ((0 : Int32) &&& 31)).toInt8.toInt32, .int (y0 >>> ((8 : Int32) &&& 31)).toInt8.toInt32, .int (y1 >>> ((0 : Int32) &&& 31)).toInt8.toInt32, .int (y1 >>> ((8 : Int32) &&& 31)).toInt8.toInt32] (.int 0)) :
    OwnMet l Z (⟨"com/example/uni_errors/unierrors/CorrelationHeaders", "isValidId", "(Ljava/lang/String;)Z"⟩ : MethodName) prog_5_method_6_code 2 (some .boolean) [] ({ frames := 5, cells := 0, slots := 0, locals := 68 } : Room) #[(.ref x0)] h0 (fun v h L => v = some (.int (own_all [y0, y1])) ∧ L = [] ∧ h = h0) := by
  refine own_body (plainFor_of_name pn_1) (fun m => ef_v1_2 m x0) ?_
  intro p e s m below meth c s₁ X0 hx hby hml hown hnm hret hlk hZ e0
  replace hown : s.vm.findClass "com/example/uni_errors/unierrors/CorrelationHeaders" = some m.cls := hown
  replace hml : c.maxLocals = 2 := hml
  show Ends p.tables e below _ (s₁.setTop (mkF m 0 #[.val (.ref x0), .unset] []))
  have i0 : (0 : Int32).toInt = 0 := rfl
  have i128 : (128 : Int32).toInt = 128 := rfl
  show Ends p.tables e below _ (s₁.setTop (mkF m 0 #[.val (.ref x0), .unset] []))
  refine own_aloadN X0 hx hby d1_0 rfl rfl rfl ?_
  refine own_ifnullNo X0 hx hby d1_1 rfl ?_
  refine own_aloadN X0 hx hby d1_4 rfl rfl rfl ?_
  refine own_virtual X0 hx hby hZ (Cn := "java/lang/String") (a := x0) (argsL := []) (rest := []) hown (hw _ tw_14) (hw _ tw_15) (hw _ tw_17) (hw _ tw_16) (hw _ tw_3) (hw _ tw_18) (by decide) (rmise1 l Z a0 hw x0 h0 G O E Fc Fv Vb (by decide)) E e0 (by rw [hml]; rfl) pd_7 rfl (by decide) (W := 0) (Nat.le_refl _) (by decide) (by decide) (by decide) d1_5 rfl rfl (fun v149 T149 L149 X149 hQ149 => ?_)
  obtain ⟨rfl, rfl, e149⟩ := hQ149
  show Ends p.tables e below _ (T149.setTop (mkF m 8 #[.val (.ref x0), .unset] [(.int (0 : Int32))]))
  refine own_if_ne X149 hx hby d1_8 (pcY := 21) (pcN := 11) (by decide) rfl (fun (hc150 : ¬ (0 : Int32) = (0 : Int32)) => False.elim (by exact absurd hc150 (by decide))) (fun (hc150 : (0 : Int32) = (0 : Int32)) => ?_)
  refine own_aloadN X149 hx hby d1_11 rfl rfl rfl ?_
  refine own_virtual X149 hx hby hZ (Cn := "java/lang/String") (a := x0) (argsL := []) (rest := []) hown (hw _ tw_47) (hw _ tw_48) (hw _ tw_50) (hw _ tw_49) (hw _ tw_3) (hw _ tw_51) (by decide) (rmlength1 l Z a0 hw x0 h0 G O E Fc Fv Vb) E e149 (by rw [hml]; rfl) pd_8 rfl (by decide) (W := 0) (Nat.le_refl _) (by decide) (by decide) (by decide) d1_12 rfl rfl (fun v151 T151 L151 X151 hQ151 => ?_)
  obtain ⟨rfl, rfl, e151⟩ := hQ151
  show Ends p.tables e below _ (T151.setTop (mkF m 15 #[.val (.ref x0), .unset] [(.int ((4 : Int32) >>> ((1 : Int32) &&& 31)))]))
  show Ends p.tables e below _ (T151.setTop (mkF m 15 #[.val (.ref x0), .unset] [(.int (2 : Int32))]))
  refine own_sipush X151 hx hby d1_15 rfl (128 : Int32) rfl ?_
  refine own_icmp_le X151 hx hby d1_18 (pcY := 23) (pcN := 21) (by decide) rfl (fun (hc152 : 2 ≤ 128) => ?_) (fun (hc152 : 128 < 2) => False.elim (by exact absurd hc152 (by decide)))
  refine own_iconst X151 hx hby d1_23 rfl (0 : Int32) rfl ?_
  refine own_istoreN X151 hx hby d1_24 rfl #[.val (.ref x0), .val (.int (0 : Int32))] rfl ?_
  refine own_iloadN X151 hx hby d1_25 rfl rfl ?_
  refine own_aloadN X151 hx hby d1_26 rfl rfl rfl ?_
  refine own_virtual X151 hx hby hZ (Cn := "java/lang/String") (a := x0) (argsL := []) (rest := [(.int (0 : Int32))]) hown (hw _ tw_47) (hw _ tw_48) (hw _ tw_50) (hw _ tw_49) (hw _ tw_3) (hw _ tw_51) (by decide) (rmlength1 l Z a0 hw x0 h0 G O E Fc Fv Vb) E e151 (by rw [hml]; rfl) pd_8 rfl (by decide) (W := 1) (Nat.le_refl _) (by decide) (by decide) (by decide) d1_27 rfl rfl (fun v153 T153 L153 X153 hQ153 => ?_)
  obtain ⟨rfl, rfl, e153⟩ := hQ153
  show Ends p.tables e below _ (T153.setTop (mkF m 30 #[.val (.ref x0), .val (.int (0 : Int32))] [(.int ((4 : Int32) >>> ((1 : Int32) &&& 31))), (.int (0 : Int32))]))
  show Ends p.tables e below _ (T153.setTop (mkF m 30 #[.val (.ref x0), .val (.int (0 : Int32))] [(.int (2 : Int32)), (.int (0 : Int32))]))
  refine own_icmp_ge X153 hx hby d1_30 (pcY := 52) (pcN := 33) (by decide) rfl (fun (hc154 : 2 ≤ 0) => False.elim (by exact absurd hc154 (by decide))) (fun (hc154 : 0 < 2) => ?_)
  refine own_aloadN X153 hx hby d1_33 rfl rfl rfl ?_
  refine own_iloadN X153 hx hby d1_34 rfl rfl ?_
  refine own_virtual X153 hx hby hZ (Cn := "java/lang/String") (a := x0) (argsL := [(.int (0 : Int32))]) (rest := []) hown (hw _ tw_57) (hw _ tw_58) (hw _ tw_60) (hw _ tw_59) (hw _ tw_3) (hw _ tw_61) (by decide) (rmcha1 l Z a0 hw x0 (0 : Int32) h0 G O E Fc Fv Vb (by decide) (by decide) (by decide) (by decide) rfl rfl (own_utf hr0) hr0) E e153 (by rw [hml]; rfl) pd_9 rfl (by decide) (W := 0) (Nat.le_refl _) (by decide) (by decide) (by decide) d1_35 rfl rfl (fun v155 T155 L155 X155 hQ155 => ?_)
  obtain ⟨rfl, rfl, e155⟩ := hQ155
  show Ends p.tables e below _ (T155.setTop (mkF m 38 #[.val (.ref x0), .val (.int (0 : Int32))] [(.int y0)]))
  refine own_static X155 hx hby hZ (argsL := [(.int y0)]) (rest := []) hown (hw _ tw_79) (hw _ tw_80) (hw _ tw_12) (hw _ tw_81) (by decide) (rm17 l Z a0 hw y0 h0) e155 (by rw [hml]; rfl) pd_0 rfl (by decide) (W := 0) (Nat.le_refl _) (by decide) (by decide) (by decide) d1_38 rfl rfl (fun v156 T156 L156 X156 hQ156 => ?_)
  obtain ⟨rfl, rfl, e156⟩ := hQ156
  show Ends p.tables e below _ (T156.setTop (mkF m 41 #[.val (.ref x0), .val (.int (0 : Int32))] [(.int (own_ok y0))]))
  refine own_if_ne X156 hx hby d1_41 (pcY := 46) (pcN := 44) (by decide) rfl (fun (hc157 : ¬ (own_ok y0) = (0 : Int32)) => ?_) (fun (hc157 : (own_ok y0) = (0 : Int32)) => ?_)
  · -- pc 41: t
    refine own_iinc X156 hx hby d1_46 rfl (1 : Int32) rfl #[.val (.ref x0), .val (.int (1 : Int32))] rfl rfl ?_
    refine own_goto X156 hx hby d1_49 (pc' := 25) (by decide) ?_
    refine own_iloadN X156 hx hby d1_25 rfl rfl ?_
    refine own_aloadN X156 hx hby d1_26 rfl rfl rfl ?_
    refine own_virtual X156 hx hby hZ (Cn := "java/lang/String") (a := x0) (argsL := []) (rest := [(.int (1 : Int32))]) hown (hw _ tw_47) (hw _ tw_48) (hw _ tw_50) (hw _ tw_49) (hw _ tw_3) (hw _ tw_51) (by decide) (rmlength1 l Z a0 hw x0 h0 G O E Fc Fv Vb) E e156 (by rw [hml]; rfl) pd_8 rfl (by decide) (W := 1) (Nat.le_refl _) (by decide) (by decide) (by decide) d1_27 rfl rfl (fun v158 T158 L158 X158 hQ158 => ?_)
    obtain ⟨rfl, rfl, e158⟩ := hQ158
    show Ends p.tables e below _ (T158.setTop (mkF m 30 #[.val (.ref x0), .val (.int (1 : Int32))] [(.int ((4 : Int32) >>> ((1 : Int32) &&& 31))), (.int (1 : Int32))]))
    show Ends p.tables e below _ (T158.setTop (mkF m 30 #[.val (.ref x0), .val (.int (1 : Int32))] [(.int (2 : Int32)), (.int (1 : Int32))]))
    refine own_icmp_ge X158 hx hby d1_30 (pcY := 52) (pcN := 33) (by decide) rfl (fun (hc159 : 2 ≤ 1) => False.elim (by exact absurd hc159 (by decide))) (fun (hc159 : 1 < 2) => ?_)
    refine own_aloadN X158 hx hby d1_33 rfl rfl rfl ?_
    refine own_iloadN X158 hx hby d1_34 rfl rfl ?_
    refine own_virtual X158 hx hby hZ (Cn := "java/lang/String") (a := x0) (argsL := [(.int (1 : Int32))]) (rest := []) hown (hw _ tw_57) (hw _ tw_58) (hw _ tw_60) (hw _ tw_59) (hw _ tw_3) (hw _ tw_61) (by decide) (rmcha1 l Z a0 hw x0 (1 : Int32) h0 G O E Fc Fv Vb (by decide) (by decide) (by decide) (by decide) rfl rfl (own_utf hr1) hr1) E e158 (by rw [hml]; rfl) pd_9 rfl (by decide) (W := 0) (Nat.le_refl _) (by decide) (by decide) (by decide) d1_35 rfl rfl (fun v160 T160 L160 X160 hQ160 => ?_)
    obtain ⟨rfl, rfl, e160⟩ := hQ160
    show Ends p.tables e below _ (T160.setTop (mkF m 38 #[.val (.ref x0), .val (.int (1 : Int32))] [(.int y1)]))
    refine own_static X160 hx hby hZ (argsL := [(.int y1)]) (rest := []) hown (hw _ tw_79) (hw _ tw_80) (hw _ tw_12) (hw _ tw_81) (by decide) (rm17 l Z a0 hw y1 h0) e160 (by rw [hml]; rfl) pd_0 rfl (by decide) (W := 0) (Nat.le_refl _) (by decide) (by decide) (by decide) d1_38 rfl rfl (fun v161 T161 L161 X161 hQ161 => ?_)
    obtain ⟨rfl, rfl, e161⟩ := hQ161
    show Ends p.tables e below _ (T161.setTop (mkF m 41 #[.val (.ref x0), .val (.int (1 : Int32))] [(.int (own_ok y1))]))
    refine own_if_ne X161 hx hby d1_41 (pcY := 46) (pcN := 44) (by decide) rfl (fun (hc162 : ¬ (own_ok y1) = (0 : Int32)) => ?_) (fun (hc162 : (own_ok y1) = (0 : Int32)) => ?_)
    · -- pc 41: t
      refine own_iinc X161 hx hby d1_46 rfl (1 : Int32) rfl #[.val (.ref x0), .val (.int (2 : Int32))] rfl rfl ?_
      refine own_goto X161 hx hby d1_49 (pc' := 25) (by decide) ?_
      refine own_iloadN X161 hx hby d1_25 rfl rfl ?_
      refine own_aloadN X161 hx hby d1_26 rfl rfl rfl ?_
      refine own_virtual X161 hx hby hZ (Cn := "java/lang/String") (a := x0) (argsL := []) (rest := [(.int (2 : Int32))]) hown (hw _ tw_47) (hw _ tw_48) (hw _ tw_50) (hw _ tw_49) (hw _ tw_3) (hw _ tw_51) (by decide) (rmlength1 l Z a0 hw x0 h0 G O E Fc Fv Vb) E e161 (by rw [hml]; rfl) pd_8 rfl (by decide) (W := 1) (Nat.le_refl _) (by decide) (by decide) (by decide) d1_27 rfl rfl (fun v163 T163 L163 X163 hQ163 => ?_)
      obtain ⟨rfl, rfl, e163⟩ := hQ163
      show Ends p.tables e below _ (T163.setTop (mkF m 30 #[.val (.ref x0), .val (.int (2 : Int32))] [(.int ((4 : Int32) >>> ((1 : Int32) &&& 31))), (.int (2 : Int32))]))
      show Ends p.tables e below _ (T163.setTop (mkF m 30 #[.val (.ref x0), .val (.int (2 : Int32))] [(.int (2 : Int32)), (.int (2 : Int32))]))
      refine own_icmp_ge X163 hx hby d1_30 (pcY := 52) (pcN := 33) (by decide) rfl (fun (hc164 : 2 ≤ 2) => ?_) (fun (hc164 : 2 < 2) => False.elim (by exact absurd hc164 (by decide)))
      refine own_iconst X163 hx hby d1_52 rfl (1 : Int32) rfl ?_
      refine own_ret X163 hx hby hret hlk d1_53 (.int (1 : Int32)) rfl (Or.inl ⟨rfl, by simp, _, rfl⟩) (by decide) (by decide) ?_
      exact ⟨congrArg (fun z => some (Value.int z)) (by rw [own_all1 hc157, own_all1 hc162]; rfl), rfl, e163⟩
    · -- pc 41: f
      refine own_iconst X161 hx hby d1_44 rfl (0 : Int32) rfl ?_
      refine own_ret X161 hx hby hret hlk d1_45 (.int (0 : Int32)) rfl (Or.inl ⟨rfl, by simp, _, rfl⟩) (by decide) (by decide) ?_
      exact ⟨congrArg (fun z => some (Value.int z)) (by rw [own_all1 hc157, own_all0 hc162]), rfl, e161⟩
  · -- pc 41: f
    refine own_iconst X156 hx hby d1_44 rfl (0 : Int32) rfl ?_
    refine own_ret X156 hx hby hret hlk d1_45 (.int (0 : Int32)) rfl (Or.inl ⟨rfl, by simp, _, rfl⟩) (by decide) (by decide) ?_
    exact ⟨congrArg (fun z => some (Value.int z)) (by rw [own_all0 hc157]), rfl, e156⟩
set_option maxRecDepth 65536 in
set_option maxHeartbeats 40000000 in
theorem rmv0_3 (l : Launch) (Z : State) (a0 : Array Value) (hw : ∀ d ∈ tables_1, d.before a0 Z = true) (x0 : Addr) (h0 : Heap) {ks : Int32} {fm : Value} (G : OwnGl Z ks fm) (O : Ext Z.heap h0) {y0 y1 y2 : Int32} (hr0 : 0 ≤ y0.toInt ∧ y0.toInt ≤ 255) (hr1 : 0 ≤ y1.toInt ∧ y1.toInt ≤ 255) (hr2 : 0 ≤ y2.toInt ∧ y2.toInt ≤ 255) {b1 : Addr} {k1 : ClassId} (E : Exa Z h0 x0 "java/lang/String") (Fc : Fld Z h0 x0 "java/lang/String" "coder" "B" (.int (0 : Int32))) (Fv : Fld Z h0 x0 "java/lang/String" "value" "[B" (.ref b1)) (Vb : Arv Z h0 b1 k1 .byte (3 : Int32) [.int y0.toInt8.toInt32, .int y1.toInt8.toInt32, .int y2.toInt8.toInt32] (.int 0)) :
    OwnMet l Z (⟨"com/example/uni_errors/unierrors/CorrelationHeaders", "isValidId", "(Ljava/lang/String;)Z"⟩ : MethodName) prog_5_method_6_code 2 (some .boolean) [] ({ frames := 5, cells := 0, slots := 0, locals := 68 } : Room) #[(.ref x0)] h0 (fun v h L => v = some (.int (own_all [y0, y1, y2])) ∧ L = [] ∧ h = h0) := by
  refine own_body (plainFor_of_name pn_1) (fun m => ef_v0_3 m x0) ?_
  intro p e s m below meth c s₁ X0 hx hby hml hown hnm hret hlk hZ e0
  replace hown : s.vm.findClass "com/example/uni_errors/unierrors/CorrelationHeaders" = some m.cls := hown
  replace hml : c.maxLocals = 2 := hml
  show Ends p.tables e below _ (s₁.setTop (mkF m 0 #[.val (.ref x0), .unset] []))
  have i0 : (0 : Int32).toInt = 0 := rfl
  have i128 : (128 : Int32).toInt = 128 := rfl
  show Ends p.tables e below _ (s₁.setTop (mkF m 0 #[.val (.ref x0), .unset] []))
  refine own_aloadN X0 hx hby d1_0 rfl rfl rfl ?_
  refine own_ifnullNo X0 hx hby d1_1 rfl ?_
  refine own_aloadN X0 hx hby d1_4 rfl rfl rfl ?_
  refine own_virtual X0 hx hby hZ (Cn := "java/lang/String") (a := x0) (argsL := []) (rest := []) hown (hw _ tw_14) (hw _ tw_15) (hw _ tw_17) (hw _ tw_16) (hw _ tw_3) (hw _ tw_18) (by decide) (rmise1 l Z a0 hw x0 h0 G O E Fc Fv Vb (by decide)) E e0 (by rw [hml]; rfl) pd_7 rfl (by decide) (W := 0) (Nat.le_refl _) (by decide) (by decide) (by decide) d1_5 rfl rfl (fun v165 T165 L165 X165 hQ165 => ?_)
  obtain ⟨rfl, rfl, e165⟩ := hQ165
  show Ends p.tables e below _ (T165.setTop (mkF m 8 #[.val (.ref x0), .unset] [(.int (0 : Int32))]))
  refine own_if_ne X165 hx hby d1_8 (pcY := 21) (pcN := 11) (by decide) rfl (fun (hc166 : ¬ (0 : Int32) = (0 : Int32)) => False.elim (by exact absurd hc166 (by decide))) (fun (hc166 : (0 : Int32) = (0 : Int32)) => ?_)
  refine own_aloadN X165 hx hby d1_11 rfl rfl rfl ?_
  refine own_virtual X165 hx hby hZ (Cn := "java/lang/String") (a := x0) (argsL := []) (rest := []) hown (hw _ tw_47) (hw _ tw_48) (hw _ tw_50) (hw _ tw_49) (hw _ tw_3) (hw _ tw_51) (by decide) (rmlength0 l Z a0 hw x0 h0 G O E Fc Fv Vb) E e165 (by rw [hml]; rfl) pd_8 rfl (by decide) (W := 0) (Nat.le_refl _) (by decide) (by decide) (by decide) d1_12 rfl rfl (fun v167 T167 L167 X167 hQ167 => ?_)
  obtain ⟨rfl, rfl, e167⟩ := hQ167
  show Ends p.tables e below _ (T167.setTop (mkF m 15 #[.val (.ref x0), .unset] [(.int ((3 : Int32) >>> ((0 : Int32) &&& 31)))]))
  show Ends p.tables e below _ (T167.setTop (mkF m 15 #[.val (.ref x0), .unset] [(.int (3 : Int32))]))
  refine own_sipush X167 hx hby d1_15 rfl (128 : Int32) rfl ?_
  refine own_icmp_le X167 hx hby d1_18 (pcY := 23) (pcN := 21) (by decide) rfl (fun (hc168 : 3 ≤ 128) => ?_) (fun (hc168 : 128 < 3) => False.elim (by exact absurd hc168 (by decide)))
  refine own_iconst X167 hx hby d1_23 rfl (0 : Int32) rfl ?_
  refine own_istoreN X167 hx hby d1_24 rfl #[.val (.ref x0), .val (.int (0 : Int32))] rfl ?_
  refine own_iloadN X167 hx hby d1_25 rfl rfl ?_
  refine own_aloadN X167 hx hby d1_26 rfl rfl rfl ?_
  refine own_virtual X167 hx hby hZ (Cn := "java/lang/String") (a := x0) (argsL := []) (rest := [(.int (0 : Int32))]) hown (hw _ tw_47) (hw _ tw_48) (hw _ tw_50) (hw _ tw_49) (hw _ tw_3) (hw _ tw_51) (by decide) (rmlength0 l Z a0 hw x0 h0 G O E Fc Fv Vb) E e167 (by rw [hml]; rfl) pd_8 rfl (by decide) (W := 1) (Nat.le_refl _) (by decide) (by decide) (by decide) d1_27 rfl rfl (fun v169 T169 L169 X169 hQ169 => ?_)
  obtain ⟨rfl, rfl, e169⟩ := hQ169
  show Ends p.tables e below _ (T169.setTop (mkF m 30 #[.val (.ref x0), .val (.int (0 : Int32))] [(.int ((3 : Int32) >>> ((0 : Int32) &&& 31))), (.int (0 : Int32))]))
  show Ends p.tables e below _ (T169.setTop (mkF m 30 #[.val (.ref x0), .val (.int (0 : Int32))] [(.int (3 : Int32)), (.int (0 : Int32))]))
  refine own_icmp_ge X169 hx hby d1_30 (pcY := 52) (pcN := 33) (by decide) rfl (fun (hc170 : 3 ≤ 0) => False.elim (by exact absurd hc170 (by decide))) (fun (hc170 : 0 < 3) => ?_)
  refine own_aloadN X169 hx hby d1_33 rfl rfl rfl ?_
  refine own_iloadN X169 hx hby d1_34 rfl rfl ?_
  refine own_virtual X169 hx hby hZ (Cn := "java/lang/String") (a := x0) (argsL := [(.int (0 : Int32))]) (rest := []) hown (hw _ tw_57) (hw _ tw_58) (hw _ tw_60) (hw _ tw_59) (hw _ tw_3) (hw _ tw_61) (by decide) (rmcha0 l Z a0 hw x0 (0 : Int32) h0 G O E Fc Fv Vb (z := y0.toInt8.toInt32) rfl (by decide) (by decide)) E e169 (by rw [hml]; rfl) pd_9 rfl (by decide) (W := 0) (Nat.le_refl _) (by decide) (by decide) (by decide) d1_35 rfl rfl (fun v171 T171 L171 X171 hQ171 => ?_)
  obtain ⟨rfl, rfl, e171⟩ := hQ171
  rw [own_lat hr0]
  show Ends p.tables e below _ (T171.setTop (mkF m 38 #[.val (.ref x0), .val (.int (0 : Int32))] [(.int y0)]))
  refine own_static X171 hx hby hZ (argsL := [(.int y0)]) (rest := []) hown (hw _ tw_79) (hw _ tw_80) (hw _ tw_12) (hw _ tw_81) (by decide) (rm17 l Z a0 hw y0 h0) e171 (by rw [hml]; rfl) pd_0 rfl (by decide) (W := 0) (Nat.le_refl _) (by decide) (by decide) (by decide) d1_38 rfl rfl (fun v172 T172 L172 X172 hQ172 => ?_)
  obtain ⟨rfl, rfl, e172⟩ := hQ172
  show Ends p.tables e below _ (T172.setTop (mkF m 41 #[.val (.ref x0), .val (.int (0 : Int32))] [(.int (own_ok y0))]))
  refine own_if_ne X172 hx hby d1_41 (pcY := 46) (pcN := 44) (by decide) rfl (fun (hc173 : ¬ (own_ok y0) = (0 : Int32)) => ?_) (fun (hc173 : (own_ok y0) = (0 : Int32)) => ?_)
  · -- pc 41: t
    refine own_iinc X172 hx hby d1_46 rfl (1 : Int32) rfl #[.val (.ref x0), .val (.int (1 : Int32))] rfl rfl ?_
    refine own_goto X172 hx hby d1_49 (pc' := 25) (by decide) ?_
    refine own_iloadN X172 hx hby d1_25 rfl rfl ?_
    refine own_aloadN X172 hx hby d1_26 rfl rfl rfl ?_
    refine own_virtual X172 hx hby hZ (Cn := "java/lang/String") (a := x0) (argsL := []) (rest := [(.int (1 : Int32))]) hown (hw _ tw_47) (hw _ tw_48) (hw _ tw_50) (hw _ tw_49) (hw _ tw_3) (hw _ tw_51) (by decide) (rmlength0 l Z a0 hw x0 h0 G O E Fc Fv Vb) E e172 (by rw [hml]; rfl) pd_8 rfl (by decide) (W := 1) (Nat.le_refl _) (by decide) (by decide) (by decide) d1_27 rfl rfl (fun v174 T174 L174 X174 hQ174 => ?_)
    obtain ⟨rfl, rfl, e174⟩ := hQ174
    show Ends p.tables e below _ (T174.setTop (mkF m 30 #[.val (.ref x0), .val (.int (1 : Int32))] [(.int ((3 : Int32) >>> ((0 : Int32) &&& 31))), (.int (1 : Int32))]))
    show Ends p.tables e below _ (T174.setTop (mkF m 30 #[.val (.ref x0), .val (.int (1 : Int32))] [(.int (3 : Int32)), (.int (1 : Int32))]))
    refine own_icmp_ge X174 hx hby d1_30 (pcY := 52) (pcN := 33) (by decide) rfl (fun (hc175 : 3 ≤ 1) => False.elim (by exact absurd hc175 (by decide))) (fun (hc175 : 1 < 3) => ?_)
    refine own_aloadN X174 hx hby d1_33 rfl rfl rfl ?_
    refine own_iloadN X174 hx hby d1_34 rfl rfl ?_
    refine own_virtual X174 hx hby hZ (Cn := "java/lang/String") (a := x0) (argsL := [(.int (1 : Int32))]) (rest := []) hown (hw _ tw_57) (hw _ tw_58) (hw _ tw_60) (hw _ tw_59) (hw _ tw_3) (hw _ tw_61) (by decide) (rmcha0 l Z a0 hw x0 (1 : Int32) h0 G O E Fc Fv Vb (z := y1.toInt8.toInt32) rfl (by decide) (by decide)) E e174 (by rw [hml]; rfl) pd_9 rfl (by decide) (W := 0) (Nat.le_refl _) (by decide) (by decide) (by decide) d1_35 rfl rfl (fun v176 T176 L176 X176 hQ176 => ?_)
    obtain ⟨rfl, rfl, e176⟩ := hQ176
    rw [own_lat hr1]
    show Ends p.tables e below _ (T176.setTop (mkF m 38 #[.val (.ref x0), .val (.int (1 : Int32))] [(.int y1)]))
    refine own_static X176 hx hby hZ (argsL := [(.int y1)]) (rest := []) hown (hw _ tw_79) (hw _ tw_80) (hw _ tw_12) (hw _ tw_81) (by decide) (rm17 l Z a0 hw y1 h0) e176 (by rw [hml]; rfl) pd_0 rfl (by decide) (W := 0) (Nat.le_refl _) (by decide) (by decide) (by decide) d1_38 rfl rfl (fun v177 T177 L177 X177 hQ177 => ?_)
    obtain ⟨rfl, rfl, e177⟩ := hQ177
    show Ends p.tables e below _ (T177.setTop (mkF m 41 #[.val (.ref x0), .val (.int (1 : Int32))] [(.int (own_ok y1))]))
    refine own_if_ne X177 hx hby d1_41 (pcY := 46) (pcN := 44) (by decide) rfl (fun (hc178 : ¬ (own_ok y1) = (0 : Int32)) => ?_) (fun (hc178 : (own_ok y1) = (0 : Int32)) => ?_)
    · -- pc 41: t
      refine own_iinc X177 hx hby d1_46 rfl (1 : Int32) rfl #[.val (.ref x0), .val (.int (2 : Int32))] rfl rfl ?_
      refine own_goto X177 hx hby d1_49 (pc' := 25) (by decide) ?_
      refine own_iloadN X177 hx hby d1_25 rfl rfl ?_
      refine own_aloadN X177 hx hby d1_26 rfl rfl rfl ?_
      refine own_virtual X177 hx hby hZ (Cn := "java/lang/String") (a := x0) (argsL := []) (rest := [(.int (2 : Int32))]) hown (hw _ tw_47) (hw _ tw_48) (hw _ tw_50) (hw _ tw_49) (hw _ tw_3) (hw _ tw_51) (by decide) (rmlength0 l Z a0 hw x0 h0 G O E Fc Fv Vb) E e177 (by rw [hml]; rfl) pd_8 rfl (by decide) (W := 1) (Nat.le_refl _) (by decide) (by decide) (by decide) d1_27 rfl rfl (fun v179 T179 L179 X179 hQ179 => ?_)
      obtain ⟨rfl, rfl, e179⟩ := hQ179
      show Ends p.tables e below _ (T179.setTop (mkF m 30 #[.val (.ref x0), .val (.int (2 : Int32))] [(.int ((3 : Int32) >>> ((0 : Int32) &&& 31))), (.int (2 : Int32))]))
      show Ends p.tables e below _ (T179.setTop (mkF m 30 #[.val (.ref x0), .val (.int (2 : Int32))] [(.int (3 : Int32)), (.int (2 : Int32))]))
      refine own_icmp_ge X179 hx hby d1_30 (pcY := 52) (pcN := 33) (by decide) rfl (fun (hc180 : 3 ≤ 2) => False.elim (by exact absurd hc180 (by decide))) (fun (hc180 : 2 < 3) => ?_)
      refine own_aloadN X179 hx hby d1_33 rfl rfl rfl ?_
      refine own_iloadN X179 hx hby d1_34 rfl rfl ?_
      refine own_virtual X179 hx hby hZ (Cn := "java/lang/String") (a := x0) (argsL := [(.int (2 : Int32))]) (rest := []) hown (hw _ tw_57) (hw _ tw_58) (hw _ tw_60) (hw _ tw_59) (hw _ tw_3) (hw _ tw_61) (by decide) (rmcha0 l Z a0 hw x0 (2 : Int32) h0 G O E Fc Fv Vb (z := y2.toInt8.toInt32) rfl (by decide) (by decide)) E e179 (by rw [hml]; rfl) pd_9 rfl (by decide) (W := 0) (Nat.le_refl _) (by decide) (by decide) (by decide) d1_35 rfl rfl (fun v181 T181 L181 X181 hQ181 => ?_)
      obtain ⟨rfl, rfl, e181⟩ := hQ181
      rw [own_lat hr2]
      show Ends p.tables e below _ (T181.setTop (mkF m 38 #[.val (.ref x0), .val (.int (2 : Int32))] [(.int y2)]))
      refine own_static X181 hx hby hZ (argsL := [(.int y2)]) (rest := []) hown (hw _ tw_79) (hw _ tw_80) (hw _ tw_12) (hw _ tw_81) (by decide) (rm17 l Z a0 hw y2 h0) e181 (by rw [hml]; rfl) pd_0 rfl (by decide) (W := 0) (Nat.le_refl _) (by decide) (by decide) (by decide) d1_38 rfl rfl (fun v182 T182 L182 X182 hQ182 => ?_)
      obtain ⟨rfl, rfl, e182⟩ := hQ182
      show Ends p.tables e below _ (T182.setTop (mkF m 41 #[.val (.ref x0), .val (.int (2 : Int32))] [(.int (own_ok y2))]))
      refine own_if_ne X182 hx hby d1_41 (pcY := 46) (pcN := 44) (by decide) rfl (fun (hc183 : ¬ (own_ok y2) = (0 : Int32)) => ?_) (fun (hc183 : (own_ok y2) = (0 : Int32)) => ?_)
      · -- pc 41: t
        refine own_iinc X182 hx hby d1_46 rfl (1 : Int32) rfl #[.val (.ref x0), .val (.int (3 : Int32))] rfl rfl ?_
        refine own_goto X182 hx hby d1_49 (pc' := 25) (by decide) ?_
        refine own_iloadN X182 hx hby d1_25 rfl rfl ?_
        refine own_aloadN X182 hx hby d1_26 rfl rfl rfl ?_
        refine own_virtual X182 hx hby hZ (Cn := "java/lang/String") (a := x0) (argsL := []) (rest := [(.int (3 : Int32))]) hown (hw _ tw_47) (hw _ tw_48) (hw _ tw_50) (hw _ tw_49) (hw _ tw_3) (hw _ tw_51) (by decide) (rmlength0 l Z a0 hw x0 h0 G O E Fc Fv Vb) E e182 (by rw [hml]; rfl) pd_8 rfl (by decide) (W := 1) (Nat.le_refl _) (by decide) (by decide) (by decide) d1_27 rfl rfl (fun v184 T184 L184 X184 hQ184 => ?_)
        obtain ⟨rfl, rfl, e184⟩ := hQ184
        show Ends p.tables e below _ (T184.setTop (mkF m 30 #[.val (.ref x0), .val (.int (3 : Int32))] [(.int ((3 : Int32) >>> ((0 : Int32) &&& 31))), (.int (3 : Int32))]))
        show Ends p.tables e below _ (T184.setTop (mkF m 30 #[.val (.ref x0), .val (.int (3 : Int32))] [(.int (3 : Int32)), (.int (3 : Int32))]))
        refine own_icmp_ge X184 hx hby d1_30 (pcY := 52) (pcN := 33) (by decide) rfl (fun (hc185 : 3 ≤ 3) => ?_) (fun (hc185 : 3 < 3) => False.elim (by exact absurd hc185 (by decide)))
        refine own_iconst X184 hx hby d1_52 rfl (1 : Int32) rfl ?_
        refine own_ret X184 hx hby hret hlk d1_53 (.int (1 : Int32)) rfl (Or.inl ⟨rfl, by simp, _, rfl⟩) (by decide) (by decide) ?_
        exact ⟨congrArg (fun z => some (Value.int z)) (by rw [own_all1 hc173, own_all1 hc178, own_all1 hc183]; rfl), rfl, e184⟩
      · -- pc 41: f
        refine own_iconst X182 hx hby d1_44 rfl (0 : Int32) rfl ?_
        refine own_ret X182 hx hby hret hlk d1_45 (.int (0 : Int32)) rfl (Or.inl ⟨rfl, by simp, _, rfl⟩) (by decide) (by decide) ?_
        exact ⟨congrArg (fun z => some (Value.int z)) (by rw [own_all1 hc173, own_all1 hc178, own_all0 hc183]), rfl, e182⟩
    · -- pc 41: f
      refine own_iconst X177 hx hby d1_44 rfl (0 : Int32) rfl ?_
      refine own_ret X177 hx hby hret hlk d1_45 (.int (0 : Int32)) rfl (Or.inl ⟨rfl, by simp, _, rfl⟩) (by decide) (by decide) ?_
      exact ⟨congrArg (fun z => some (Value.int z)) (by rw [own_all1 hc173, own_all0 hc178]), rfl, e177⟩
  · -- pc 41: f
    refine own_iconst X172 hx hby d1_44 rfl (0 : Int32) rfl ?_
    refine own_ret X172 hx hby hret hlk d1_45 (.int (0 : Int32)) rfl (Or.inl ⟨rfl, by simp, _, rfl⟩) (by decide) (by decide) ?_
    exact ⟨congrArg (fun z => some (Value.int z)) (by rw [own_all0 hc173]), rfl, e172⟩
set_option maxRecDepth 65536 in
set_option maxHeartbeats 40000000 in
theorem rmv1_3 (l : Launch) (Z : State) (a0 : Array Value) (hw : ∀ d ∈ tables_1, d.before a0 Z = true) (x0 : Addr) (h0 : Heap) {ks : Int32} {fm : Value} (G : OwnGl Z ks fm) (O : Ext Z.heap h0) {y0 y1 y2 : Int32} (hr0 : 0 ≤ y0.toInt ∧ y0.toInt < 65536) (hr1 : 0 ≤ y1.toInt ∧ y1.toInt < 65536) (hr2 : 0 ≤ y2.toInt ∧ y2.toInt < 65536) {b1 : Addr} {k1 : ClassId} (E : Exa Z h0 x0 "java/lang/String") (Fc : Fld Z h0 x0 "java/lang/String" "coder" "B" (.int (1 : Int32))) (Fv : Fld Z h0 x0 "java/lang/String" "value" "[B" (.ref b1)) (Vb : Arv Z h0 b1 k1 .byte (6 : Int32) [.int (y0 >>> ((0 : Int32) &&& 31)).toInt8.toInt32, .int (y0 >>> ((8 : Int32) &&& 31)).toInt8.toInt32, .int (y1 >>> ((0 : Int32) &&& 31)).toInt8.toInt32, .int (y1 >>> ((8 : Int32) &&& 31)).toInt8.toInt32, .int (y2 >>> ((0 : Int32) &&& 31)).toInt8.toInt32, .int (y2 >>> ((8 : Int32) &&& 31)).toInt8.toInt32] (.int 0)) :
    OwnMet l Z (⟨"com/example/uni_errors/unierrors/CorrelationHeaders", "isValidId", "(Ljava/lang/String;)Z"⟩ : MethodName) prog_5_method_6_code 2 (some .boolean) [] ({ frames := 5, cells := 0, slots := 0, locals := 68 } : Room) #[(.ref x0)] h0 (fun v h L => v = some (.int (own_all [y0, y1, y2])) ∧ L = [] ∧ h = h0) := by
  refine own_body (plainFor_of_name pn_1) (fun m => ef_v1_3 m x0) ?_
  intro p e s m below meth c s₁ X0 hx hby hml hown hnm hret hlk hZ e0
  replace hown : s.vm.findClass "com/example/uni_errors/unierrors/CorrelationHeaders" = some m.cls := hown
  replace hml : c.maxLocals = 2 := hml
  show Ends p.tables e below _ (s₁.setTop (mkF m 0 #[.val (.ref x0), .unset] []))
  have i0 : (0 : Int32).toInt = 0 := rfl
  have i128 : (128 : Int32).toInt = 128 := rfl
  show Ends p.tables e below _ (s₁.setTop (mkF m 0 #[.val (.ref x0), .unset] []))
  refine own_aloadN X0 hx hby d1_0 rfl rfl rfl ?_
  refine own_ifnullNo X0 hx hby d1_1 rfl ?_
  refine own_aloadN X0 hx hby d1_4 rfl rfl rfl ?_
  refine own_virtual X0 hx hby hZ (Cn := "java/lang/String") (a := x0) (argsL := []) (rest := []) hown (hw _ tw_14) (hw _ tw_15) (hw _ tw_17) (hw _ tw_16) (hw _ tw_3) (hw _ tw_18) (by decide) (rmise1 l Z a0 hw x0 h0 G O E Fc Fv Vb (by decide)) E e0 (by rw [hml]; rfl) pd_7 rfl (by decide) (W := 0) (Nat.le_refl _) (by decide) (by decide) (by decide) d1_5 rfl rfl (fun v186 T186 L186 X186 hQ186 => ?_)
  obtain ⟨rfl, rfl, e186⟩ := hQ186
  show Ends p.tables e below _ (T186.setTop (mkF m 8 #[.val (.ref x0), .unset] [(.int (0 : Int32))]))
  refine own_if_ne X186 hx hby d1_8 (pcY := 21) (pcN := 11) (by decide) rfl (fun (hc187 : ¬ (0 : Int32) = (0 : Int32)) => False.elim (by exact absurd hc187 (by decide))) (fun (hc187 : (0 : Int32) = (0 : Int32)) => ?_)
  refine own_aloadN X186 hx hby d1_11 rfl rfl rfl ?_
  refine own_virtual X186 hx hby hZ (Cn := "java/lang/String") (a := x0) (argsL := []) (rest := []) hown (hw _ tw_47) (hw _ tw_48) (hw _ tw_50) (hw _ tw_49) (hw _ tw_3) (hw _ tw_51) (by decide) (rmlength1 l Z a0 hw x0 h0 G O E Fc Fv Vb) E e186 (by rw [hml]; rfl) pd_8 rfl (by decide) (W := 0) (Nat.le_refl _) (by decide) (by decide) (by decide) d1_12 rfl rfl (fun v188 T188 L188 X188 hQ188 => ?_)
  obtain ⟨rfl, rfl, e188⟩ := hQ188
  show Ends p.tables e below _ (T188.setTop (mkF m 15 #[.val (.ref x0), .unset] [(.int ((6 : Int32) >>> ((1 : Int32) &&& 31)))]))
  show Ends p.tables e below _ (T188.setTop (mkF m 15 #[.val (.ref x0), .unset] [(.int (3 : Int32))]))
  refine own_sipush X188 hx hby d1_15 rfl (128 : Int32) rfl ?_
  refine own_icmp_le X188 hx hby d1_18 (pcY := 23) (pcN := 21) (by decide) rfl (fun (hc189 : 3 ≤ 128) => ?_) (fun (hc189 : 128 < 3) => False.elim (by exact absurd hc189 (by decide)))
  refine own_iconst X188 hx hby d1_23 rfl (0 : Int32) rfl ?_
  refine own_istoreN X188 hx hby d1_24 rfl #[.val (.ref x0), .val (.int (0 : Int32))] rfl ?_
  refine own_iloadN X188 hx hby d1_25 rfl rfl ?_
  refine own_aloadN X188 hx hby d1_26 rfl rfl rfl ?_
  refine own_virtual X188 hx hby hZ (Cn := "java/lang/String") (a := x0) (argsL := []) (rest := [(.int (0 : Int32))]) hown (hw _ tw_47) (hw _ tw_48) (hw _ tw_50) (hw _ tw_49) (hw _ tw_3) (hw _ tw_51) (by decide) (rmlength1 l Z a0 hw x0 h0 G O E Fc Fv Vb) E e188 (by rw [hml]; rfl) pd_8 rfl (by decide) (W := 1) (Nat.le_refl _) (by decide) (by decide) (by decide) d1_27 rfl rfl (fun v190 T190 L190 X190 hQ190 => ?_)
  obtain ⟨rfl, rfl, e190⟩ := hQ190
  show Ends p.tables e below _ (T190.setTop (mkF m 30 #[.val (.ref x0), .val (.int (0 : Int32))] [(.int ((6 : Int32) >>> ((1 : Int32) &&& 31))), (.int (0 : Int32))]))
  show Ends p.tables e below _ (T190.setTop (mkF m 30 #[.val (.ref x0), .val (.int (0 : Int32))] [(.int (3 : Int32)), (.int (0 : Int32))]))
  refine own_icmp_ge X190 hx hby d1_30 (pcY := 52) (pcN := 33) (by decide) rfl (fun (hc191 : 3 ≤ 0) => False.elim (by exact absurd hc191 (by decide))) (fun (hc191 : 0 < 3) => ?_)
  refine own_aloadN X190 hx hby d1_33 rfl rfl rfl ?_
  refine own_iloadN X190 hx hby d1_34 rfl rfl ?_
  refine own_virtual X190 hx hby hZ (Cn := "java/lang/String") (a := x0) (argsL := [(.int (0 : Int32))]) (rest := []) hown (hw _ tw_57) (hw _ tw_58) (hw _ tw_60) (hw _ tw_59) (hw _ tw_3) (hw _ tw_61) (by decide) (rmcha1 l Z a0 hw x0 (0 : Int32) h0 G O E Fc Fv Vb (by decide) (by decide) (by decide) (by decide) rfl rfl (own_utf hr0) hr0) E e190 (by rw [hml]; rfl) pd_9 rfl (by decide) (W := 0) (Nat.le_refl _) (by decide) (by decide) (by decide) d1_35 rfl rfl (fun v192 T192 L192 X192 hQ192 => ?_)
  obtain ⟨rfl, rfl, e192⟩ := hQ192
  show Ends p.tables e below _ (T192.setTop (mkF m 38 #[.val (.ref x0), .val (.int (0 : Int32))] [(.int y0)]))
  refine own_static X192 hx hby hZ (argsL := [(.int y0)]) (rest := []) hown (hw _ tw_79) (hw _ tw_80) (hw _ tw_12) (hw _ tw_81) (by decide) (rm17 l Z a0 hw y0 h0) e192 (by rw [hml]; rfl) pd_0 rfl (by decide) (W := 0) (Nat.le_refl _) (by decide) (by decide) (by decide) d1_38 rfl rfl (fun v193 T193 L193 X193 hQ193 => ?_)
  obtain ⟨rfl, rfl, e193⟩ := hQ193
  show Ends p.tables e below _ (T193.setTop (mkF m 41 #[.val (.ref x0), .val (.int (0 : Int32))] [(.int (own_ok y0))]))
  refine own_if_ne X193 hx hby d1_41 (pcY := 46) (pcN := 44) (by decide) rfl (fun (hc194 : ¬ (own_ok y0) = (0 : Int32)) => ?_) (fun (hc194 : (own_ok y0) = (0 : Int32)) => ?_)
  · -- pc 41: t
    refine own_iinc X193 hx hby d1_46 rfl (1 : Int32) rfl #[.val (.ref x0), .val (.int (1 : Int32))] rfl rfl ?_
    refine own_goto X193 hx hby d1_49 (pc' := 25) (by decide) ?_
    refine own_iloadN X193 hx hby d1_25 rfl rfl ?_
    refine own_aloadN X193 hx hby d1_26 rfl rfl rfl ?_
    refine own_virtual X193 hx hby hZ (Cn := "java/lang/String") (a := x0) (argsL := []) (rest := [(.int (1 : Int32))]) hown (hw _ tw_47) (hw _ tw_48) (hw _ tw_50) (hw _ tw_49) (hw _ tw_3) (hw _ tw_51) (by decide) (rmlength1 l Z a0 hw x0 h0 G O E Fc Fv Vb) E e193 (by rw [hml]; rfl) pd_8 rfl (by decide) (W := 1) (Nat.le_refl _) (by decide) (by decide) (by decide) d1_27 rfl rfl (fun v195 T195 L195 X195 hQ195 => ?_)
    obtain ⟨rfl, rfl, e195⟩ := hQ195
    show Ends p.tables e below _ (T195.setTop (mkF m 30 #[.val (.ref x0), .val (.int (1 : Int32))] [(.int ((6 : Int32) >>> ((1 : Int32) &&& 31))), (.int (1 : Int32))]))
    show Ends p.tables e below _ (T195.setTop (mkF m 30 #[.val (.ref x0), .val (.int (1 : Int32))] [(.int (3 : Int32)), (.int (1 : Int32))]))
    refine own_icmp_ge X195 hx hby d1_30 (pcY := 52) (pcN := 33) (by decide) rfl (fun (hc196 : 3 ≤ 1) => False.elim (by exact absurd hc196 (by decide))) (fun (hc196 : 1 < 3) => ?_)
    refine own_aloadN X195 hx hby d1_33 rfl rfl rfl ?_
    refine own_iloadN X195 hx hby d1_34 rfl rfl ?_
    refine own_virtual X195 hx hby hZ (Cn := "java/lang/String") (a := x0) (argsL := [(.int (1 : Int32))]) (rest := []) hown (hw _ tw_57) (hw _ tw_58) (hw _ tw_60) (hw _ tw_59) (hw _ tw_3) (hw _ tw_61) (by decide) (rmcha1 l Z a0 hw x0 (1 : Int32) h0 G O E Fc Fv Vb (by decide) (by decide) (by decide) (by decide) rfl rfl (own_utf hr1) hr1) E e195 (by rw [hml]; rfl) pd_9 rfl (by decide) (W := 0) (Nat.le_refl _) (by decide) (by decide) (by decide) d1_35 rfl rfl (fun v197 T197 L197 X197 hQ197 => ?_)
    obtain ⟨rfl, rfl, e197⟩ := hQ197
    show Ends p.tables e below _ (T197.setTop (mkF m 38 #[.val (.ref x0), .val (.int (1 : Int32))] [(.int y1)]))
    refine own_static X197 hx hby hZ (argsL := [(.int y1)]) (rest := []) hown (hw _ tw_79) (hw _ tw_80) (hw _ tw_12) (hw _ tw_81) (by decide) (rm17 l Z a0 hw y1 h0) e197 (by rw [hml]; rfl) pd_0 rfl (by decide) (W := 0) (Nat.le_refl _) (by decide) (by decide) (by decide) d1_38 rfl rfl (fun v198 T198 L198 X198 hQ198 => ?_)
    obtain ⟨rfl, rfl, e198⟩ := hQ198
    show Ends p.tables e below _ (T198.setTop (mkF m 41 #[.val (.ref x0), .val (.int (1 : Int32))] [(.int (own_ok y1))]))
    refine own_if_ne X198 hx hby d1_41 (pcY := 46) (pcN := 44) (by decide) rfl (fun (hc199 : ¬ (own_ok y1) = (0 : Int32)) => ?_) (fun (hc199 : (own_ok y1) = (0 : Int32)) => ?_)
    · -- pc 41: t
      refine own_iinc X198 hx hby d1_46 rfl (1 : Int32) rfl #[.val (.ref x0), .val (.int (2 : Int32))] rfl rfl ?_
      refine own_goto X198 hx hby d1_49 (pc' := 25) (by decide) ?_
      refine own_iloadN X198 hx hby d1_25 rfl rfl ?_
      refine own_aloadN X198 hx hby d1_26 rfl rfl rfl ?_
      refine own_virtual X198 hx hby hZ (Cn := "java/lang/String") (a := x0) (argsL := []) (rest := [(.int (2 : Int32))]) hown (hw _ tw_47) (hw _ tw_48) (hw _ tw_50) (hw _ tw_49) (hw _ tw_3) (hw _ tw_51) (by decide) (rmlength1 l Z a0 hw x0 h0 G O E Fc Fv Vb) E e198 (by rw [hml]; rfl) pd_8 rfl (by decide) (W := 1) (Nat.le_refl _) (by decide) (by decide) (by decide) d1_27 rfl rfl (fun v200 T200 L200 X200 hQ200 => ?_)
      obtain ⟨rfl, rfl, e200⟩ := hQ200
      show Ends p.tables e below _ (T200.setTop (mkF m 30 #[.val (.ref x0), .val (.int (2 : Int32))] [(.int ((6 : Int32) >>> ((1 : Int32) &&& 31))), (.int (2 : Int32))]))
      show Ends p.tables e below _ (T200.setTop (mkF m 30 #[.val (.ref x0), .val (.int (2 : Int32))] [(.int (3 : Int32)), (.int (2 : Int32))]))
      refine own_icmp_ge X200 hx hby d1_30 (pcY := 52) (pcN := 33) (by decide) rfl (fun (hc201 : 3 ≤ 2) => False.elim (by exact absurd hc201 (by decide))) (fun (hc201 : 2 < 3) => ?_)
      refine own_aloadN X200 hx hby d1_33 rfl rfl rfl ?_
      refine own_iloadN X200 hx hby d1_34 rfl rfl ?_
      refine own_virtual X200 hx hby hZ (Cn := "java/lang/String") (a := x0) (argsL := [(.int (2 : Int32))]) (rest := []) hown (hw _ tw_57) (hw _ tw_58) (hw _ tw_60) (hw _ tw_59) (hw _ tw_3) (hw _ tw_61) (by decide) (rmcha1 l Z a0 hw x0 (2 : Int32) h0 G O E Fc Fv Vb (by decide) (by decide) (by decide) (by decide) rfl rfl (own_utf hr2) hr2) E e200 (by rw [hml]; rfl) pd_9 rfl (by decide) (W := 0) (Nat.le_refl _) (by decide) (by decide) (by decide) d1_35 rfl rfl (fun v202 T202 L202 X202 hQ202 => ?_)
      obtain ⟨rfl, rfl, e202⟩ := hQ202
      show Ends p.tables e below _ (T202.setTop (mkF m 38 #[.val (.ref x0), .val (.int (2 : Int32))] [(.int y2)]))
      refine own_static X202 hx hby hZ (argsL := [(.int y2)]) (rest := []) hown (hw _ tw_79) (hw _ tw_80) (hw _ tw_12) (hw _ tw_81) (by decide) (rm17 l Z a0 hw y2 h0) e202 (by rw [hml]; rfl) pd_0 rfl (by decide) (W := 0) (Nat.le_refl _) (by decide) (by decide) (by decide) d1_38 rfl rfl (fun v203 T203 L203 X203 hQ203 => ?_)
      obtain ⟨rfl, rfl, e203⟩ := hQ203
      show Ends p.tables e below _ (T203.setTop (mkF m 41 #[.val (.ref x0), .val (.int (2 : Int32))] [(.int (own_ok y2))]))
      refine own_if_ne X203 hx hby d1_41 (pcY := 46) (pcN := 44) (by decide) rfl (fun (hc204 : ¬ (own_ok y2) = (0 : Int32)) => ?_) (fun (hc204 : (own_ok y2) = (0 : Int32)) => ?_)
      · -- pc 41: t
        refine own_iinc X203 hx hby d1_46 rfl (1 : Int32) rfl #[.val (.ref x0), .val (.int (3 : Int32))] rfl rfl ?_
        refine own_goto X203 hx hby d1_49 (pc' := 25) (by decide) ?_
        refine own_iloadN X203 hx hby d1_25 rfl rfl ?_
        refine own_aloadN X203 hx hby d1_26 rfl rfl rfl ?_
        refine own_virtual X203 hx hby hZ (Cn := "java/lang/String") (a := x0) (argsL := []) (rest := [(.int (3 : Int32))]) hown (hw _ tw_47) (hw _ tw_48) (hw _ tw_50) (hw _ tw_49) (hw _ tw_3) (hw _ tw_51) (by decide) (rmlength1 l Z a0 hw x0 h0 G O E Fc Fv Vb) E e203 (by rw [hml]; rfl) pd_8 rfl (by decide) (W := 1) (Nat.le_refl _) (by decide) (by decide) (by decide) d1_27 rfl rfl (fun v205 T205 L205 X205 hQ205 => ?_)
        obtain ⟨rfl, rfl, e205⟩ := hQ205
        show Ends p.tables e below _ (T205.setTop (mkF m 30 #[.val (.ref x0), .val (.int (3 : Int32))] [(.int ((6 : Int32) >>> ((1 : Int32) &&& 31))), (.int (3 : Int32))]))
        show Ends p.tables e below _ (T205.setTop (mkF m 30 #[.val (.ref x0), .val (.int (3 : Int32))] [(.int (3 : Int32)), (.int (3 : Int32))]))
        refine own_icmp_ge X205 hx hby d1_30 (pcY := 52) (pcN := 33) (by decide) rfl (fun (hc206 : 3 ≤ 3) => ?_) (fun (hc206 : 3 < 3) => False.elim (by exact absurd hc206 (by decide)))
        refine own_iconst X205 hx hby d1_52 rfl (1 : Int32) rfl ?_
        refine own_ret X205 hx hby hret hlk d1_53 (.int (1 : Int32)) rfl (Or.inl ⟨rfl, by simp, _, rfl⟩) (by decide) (by decide) ?_
        exact ⟨congrArg (fun z => some (Value.int z)) (by rw [own_all1 hc194, own_all1 hc199, own_all1 hc204]; rfl), rfl, e205⟩
      · -- pc 41: f
        refine own_iconst X203 hx hby d1_44 rfl (0 : Int32) rfl ?_
        refine own_ret X203 hx hby hret hlk d1_45 (.int (0 : Int32)) rfl (Or.inl ⟨rfl, by simp, _, rfl⟩) (by decide) (by decide) ?_
        exact ⟨congrArg (fun z => some (Value.int z)) (by rw [own_all1 hc194, own_all1 hc199, own_all0 hc204]), rfl, e203⟩
    · -- pc 41: f
      refine own_iconst X198 hx hby d1_44 rfl (0 : Int32) rfl ?_
      refine own_ret X198 hx hby hret hlk d1_45 (.int (0 : Int32)) rfl (Or.inl ⟨rfl, by simp, _, rfl⟩) (by decide) (by decide) ?_
      exact ⟨congrArg (fun z => some (Value.int z)) (by rw [own_all1 hc194, own_all0 hc199]), rfl, e198⟩
  · -- pc 41: f
    refine own_iconst X193 hx hby d1_44 rfl (0 : Int32) rfl ?_
    refine own_ret X193 hx hby hret hlk d1_45 (.int (0 : Int32)) rfl (Or.inl ⟨rfl, by simp, _, rfl⟩) (by decide) (by decide) ?_
    exact ⟨congrArg (fun z => some (Value.int z)) (by rw [own_all0 hc194]), rfl, e193⟩
set_option maxRecDepth 65536 in
set_option maxHeartbeats 40000000 in
theorem rmv0_4 (l : Launch) (Z : State) (a0 : Array Value) (hw : ∀ d ∈ tables_1, d.before a0 Z = true) (x0 : Addr) (h0 : Heap) {ks : Int32} {fm : Value} (G : OwnGl Z ks fm) (O : Ext Z.heap h0) {y0 y1 y2 y3 : Int32} (hr0 : 0 ≤ y0.toInt ∧ y0.toInt ≤ 255) (hr1 : 0 ≤ y1.toInt ∧ y1.toInt ≤ 255) (hr2 : 0 ≤ y2.toInt ∧ y2.toInt ≤ 255) (hr3 : 0 ≤ y3.toInt ∧ y3.toInt ≤ 255) {b1 : Addr} {k1 : ClassId} (E : Exa Z h0 x0 "java/lang/String") (Fc : Fld Z h0 x0 "java/lang/String" "coder" "B" (.int (0 : Int32))) (Fv : Fld Z h0 x0 "java/lang/String" "value" "[B" (.ref b1)) (Vb : Arv Z h0 b1 k1 .byte (4 : Int32) [.int y0.toInt8.toInt32, .int y1.toInt8.toInt32, .int y2.toInt8.toInt32, .int y3.toInt8.toInt32] (.int 0)) :
    OwnMet l Z (⟨"com/example/uni_errors/unierrors/CorrelationHeaders", "isValidId", "(Ljava/lang/String;)Z"⟩ : MethodName) prog_5_method_6_code 2 (some .boolean) [] ({ frames := 5, cells := 0, slots := 0, locals := 68 } : Room) #[(.ref x0)] h0 (fun v h L => v = some (.int (own_all [y0, y1, y2, y3])) ∧ L = [] ∧ h = h0) := by
  refine own_body (plainFor_of_name pn_1) (fun m => ef_v0_4 m x0) ?_
  intro p e s m below meth c s₁ X0 hx hby hml hown hnm hret hlk hZ e0
  replace hown : s.vm.findClass "com/example/uni_errors/unierrors/CorrelationHeaders" = some m.cls := hown
  replace hml : c.maxLocals = 2 := hml
  show Ends p.tables e below _ (s₁.setTop (mkF m 0 #[.val (.ref x0), .unset] []))
  have i0 : (0 : Int32).toInt = 0 := rfl
  have i128 : (128 : Int32).toInt = 128 := rfl
  show Ends p.tables e below _ (s₁.setTop (mkF m 0 #[.val (.ref x0), .unset] []))
  refine own_aloadN X0 hx hby d1_0 rfl rfl rfl ?_
  refine own_ifnullNo X0 hx hby d1_1 rfl ?_
  refine own_aloadN X0 hx hby d1_4 rfl rfl rfl ?_
  refine own_virtual X0 hx hby hZ (Cn := "java/lang/String") (a := x0) (argsL := []) (rest := []) hown (hw _ tw_14) (hw _ tw_15) (hw _ tw_17) (hw _ tw_16) (hw _ tw_3) (hw _ tw_18) (by decide) (rmise1 l Z a0 hw x0 h0 G O E Fc Fv Vb (by decide)) E e0 (by rw [hml]; rfl) pd_7 rfl (by decide) (W := 0) (Nat.le_refl _) (by decide) (by decide) (by decide) d1_5 rfl rfl (fun v207 T207 L207 X207 hQ207 => ?_)
  obtain ⟨rfl, rfl, e207⟩ := hQ207
  show Ends p.tables e below _ (T207.setTop (mkF m 8 #[.val (.ref x0), .unset] [(.int (0 : Int32))]))
  refine own_if_ne X207 hx hby d1_8 (pcY := 21) (pcN := 11) (by decide) rfl (fun (hc208 : ¬ (0 : Int32) = (0 : Int32)) => False.elim (by exact absurd hc208 (by decide))) (fun (hc208 : (0 : Int32) = (0 : Int32)) => ?_)
  refine own_aloadN X207 hx hby d1_11 rfl rfl rfl ?_
  refine own_virtual X207 hx hby hZ (Cn := "java/lang/String") (a := x0) (argsL := []) (rest := []) hown (hw _ tw_47) (hw _ tw_48) (hw _ tw_50) (hw _ tw_49) (hw _ tw_3) (hw _ tw_51) (by decide) (rmlength0 l Z a0 hw x0 h0 G O E Fc Fv Vb) E e207 (by rw [hml]; rfl) pd_8 rfl (by decide) (W := 0) (Nat.le_refl _) (by decide) (by decide) (by decide) d1_12 rfl rfl (fun v209 T209 L209 X209 hQ209 => ?_)
  obtain ⟨rfl, rfl, e209⟩ := hQ209
  show Ends p.tables e below _ (T209.setTop (mkF m 15 #[.val (.ref x0), .unset] [(.int ((4 : Int32) >>> ((0 : Int32) &&& 31)))]))
  show Ends p.tables e below _ (T209.setTop (mkF m 15 #[.val (.ref x0), .unset] [(.int (4 : Int32))]))
  refine own_sipush X209 hx hby d1_15 rfl (128 : Int32) rfl ?_
  refine own_icmp_le X209 hx hby d1_18 (pcY := 23) (pcN := 21) (by decide) rfl (fun (hc210 : 4 ≤ 128) => ?_) (fun (hc210 : 128 < 4) => False.elim (by exact absurd hc210 (by decide)))
  refine own_iconst X209 hx hby d1_23 rfl (0 : Int32) rfl ?_
  refine own_istoreN X209 hx hby d1_24 rfl #[.val (.ref x0), .val (.int (0 : Int32))] rfl ?_
  refine own_iloadN X209 hx hby d1_25 rfl rfl ?_
  refine own_aloadN X209 hx hby d1_26 rfl rfl rfl ?_
  refine own_virtual X209 hx hby hZ (Cn := "java/lang/String") (a := x0) (argsL := []) (rest := [(.int (0 : Int32))]) hown (hw _ tw_47) (hw _ tw_48) (hw _ tw_50) (hw _ tw_49) (hw _ tw_3) (hw _ tw_51) (by decide) (rmlength0 l Z a0 hw x0 h0 G O E Fc Fv Vb) E e209 (by rw [hml]; rfl) pd_8 rfl (by decide) (W := 1) (Nat.le_refl _) (by decide) (by decide) (by decide) d1_27 rfl rfl (fun v211 T211 L211 X211 hQ211 => ?_)
  obtain ⟨rfl, rfl, e211⟩ := hQ211
  show Ends p.tables e below _ (T211.setTop (mkF m 30 #[.val (.ref x0), .val (.int (0 : Int32))] [(.int ((4 : Int32) >>> ((0 : Int32) &&& 31))), (.int (0 : Int32))]))
  show Ends p.tables e below _ (T211.setTop (mkF m 30 #[.val (.ref x0), .val (.int (0 : Int32))] [(.int (4 : Int32)), (.int (0 : Int32))]))
  refine own_icmp_ge X211 hx hby d1_30 (pcY := 52) (pcN := 33) (by decide) rfl (fun (hc212 : 4 ≤ 0) => False.elim (by exact absurd hc212 (by decide))) (fun (hc212 : 0 < 4) => ?_)
  refine own_aloadN X211 hx hby d1_33 rfl rfl rfl ?_
  refine own_iloadN X211 hx hby d1_34 rfl rfl ?_
  refine own_virtual X211 hx hby hZ (Cn := "java/lang/String") (a := x0) (argsL := [(.int (0 : Int32))]) (rest := []) hown (hw _ tw_57) (hw _ tw_58) (hw _ tw_60) (hw _ tw_59) (hw _ tw_3) (hw _ tw_61) (by decide) (rmcha0 l Z a0 hw x0 (0 : Int32) h0 G O E Fc Fv Vb (z := y0.toInt8.toInt32) rfl (by decide) (by decide)) E e211 (by rw [hml]; rfl) pd_9 rfl (by decide) (W := 0) (Nat.le_refl _) (by decide) (by decide) (by decide) d1_35 rfl rfl (fun v213 T213 L213 X213 hQ213 => ?_)
  obtain ⟨rfl, rfl, e213⟩ := hQ213
  rw [own_lat hr0]
  show Ends p.tables e below _ (T213.setTop (mkF m 38 #[.val (.ref x0), .val (.int (0 : Int32))] [(.int y0)]))
  refine own_static X213 hx hby hZ (argsL := [(.int y0)]) (rest := []) hown (hw _ tw_79) (hw _ tw_80) (hw _ tw_12) (hw _ tw_81) (by decide) (rm17 l Z a0 hw y0 h0) e213 (by rw [hml]; rfl) pd_0 rfl (by decide) (W := 0) (Nat.le_refl _) (by decide) (by decide) (by decide) d1_38 rfl rfl (fun v214 T214 L214 X214 hQ214 => ?_)
  obtain ⟨rfl, rfl, e214⟩ := hQ214
  show Ends p.tables e below _ (T214.setTop (mkF m 41 #[.val (.ref x0), .val (.int (0 : Int32))] [(.int (own_ok y0))]))
  refine own_if_ne X214 hx hby d1_41 (pcY := 46) (pcN := 44) (by decide) rfl (fun (hc215 : ¬ (own_ok y0) = (0 : Int32)) => ?_) (fun (hc215 : (own_ok y0) = (0 : Int32)) => ?_)
  · -- pc 41: t
    refine own_iinc X214 hx hby d1_46 rfl (1 : Int32) rfl #[.val (.ref x0), .val (.int (1 : Int32))] rfl rfl ?_
    refine own_goto X214 hx hby d1_49 (pc' := 25) (by decide) ?_
    refine own_iloadN X214 hx hby d1_25 rfl rfl ?_
    refine own_aloadN X214 hx hby d1_26 rfl rfl rfl ?_
    refine own_virtual X214 hx hby hZ (Cn := "java/lang/String") (a := x0) (argsL := []) (rest := [(.int (1 : Int32))]) hown (hw _ tw_47) (hw _ tw_48) (hw _ tw_50) (hw _ tw_49) (hw _ tw_3) (hw _ tw_51) (by decide) (rmlength0 l Z a0 hw x0 h0 G O E Fc Fv Vb) E e214 (by rw [hml]; rfl) pd_8 rfl (by decide) (W := 1) (Nat.le_refl _) (by decide) (by decide) (by decide) d1_27 rfl rfl (fun v216 T216 L216 X216 hQ216 => ?_)
    obtain ⟨rfl, rfl, e216⟩ := hQ216
    show Ends p.tables e below _ (T216.setTop (mkF m 30 #[.val (.ref x0), .val (.int (1 : Int32))] [(.int ((4 : Int32) >>> ((0 : Int32) &&& 31))), (.int (1 : Int32))]))
    show Ends p.tables e below _ (T216.setTop (mkF m 30 #[.val (.ref x0), .val (.int (1 : Int32))] [(.int (4 : Int32)), (.int (1 : Int32))]))
    refine own_icmp_ge X216 hx hby d1_30 (pcY := 52) (pcN := 33) (by decide) rfl (fun (hc217 : 4 ≤ 1) => False.elim (by exact absurd hc217 (by decide))) (fun (hc217 : 1 < 4) => ?_)
    refine own_aloadN X216 hx hby d1_33 rfl rfl rfl ?_
    refine own_iloadN X216 hx hby d1_34 rfl rfl ?_
    refine own_virtual X216 hx hby hZ (Cn := "java/lang/String") (a := x0) (argsL := [(.int (1 : Int32))]) (rest := []) hown (hw _ tw_57) (hw _ tw_58) (hw _ tw_60) (hw _ tw_59) (hw _ tw_3) (hw _ tw_61) (by decide) (rmcha0 l Z a0 hw x0 (1 : Int32) h0 G O E Fc Fv Vb (z := y1.toInt8.toInt32) rfl (by decide) (by decide)) E e216 (by rw [hml]; rfl) pd_9 rfl (by decide) (W := 0) (Nat.le_refl _) (by decide) (by decide) (by decide) d1_35 rfl rfl (fun v218 T218 L218 X218 hQ218 => ?_)
    obtain ⟨rfl, rfl, e218⟩ := hQ218
    rw [own_lat hr1]
    show Ends p.tables e below _ (T218.setTop (mkF m 38 #[.val (.ref x0), .val (.int (1 : Int32))] [(.int y1)]))
    refine own_static X218 hx hby hZ (argsL := [(.int y1)]) (rest := []) hown (hw _ tw_79) (hw _ tw_80) (hw _ tw_12) (hw _ tw_81) (by decide) (rm17 l Z a0 hw y1 h0) e218 (by rw [hml]; rfl) pd_0 rfl (by decide) (W := 0) (Nat.le_refl _) (by decide) (by decide) (by decide) d1_38 rfl rfl (fun v219 T219 L219 X219 hQ219 => ?_)
    obtain ⟨rfl, rfl, e219⟩ := hQ219
    show Ends p.tables e below _ (T219.setTop (mkF m 41 #[.val (.ref x0), .val (.int (1 : Int32))] [(.int (own_ok y1))]))
    refine own_if_ne X219 hx hby d1_41 (pcY := 46) (pcN := 44) (by decide) rfl (fun (hc220 : ¬ (own_ok y1) = (0 : Int32)) => ?_) (fun (hc220 : (own_ok y1) = (0 : Int32)) => ?_)
    · -- pc 41: t
      refine own_iinc X219 hx hby d1_46 rfl (1 : Int32) rfl #[.val (.ref x0), .val (.int (2 : Int32))] rfl rfl ?_
      refine own_goto X219 hx hby d1_49 (pc' := 25) (by decide) ?_
      refine own_iloadN X219 hx hby d1_25 rfl rfl ?_
      refine own_aloadN X219 hx hby d1_26 rfl rfl rfl ?_
      refine own_virtual X219 hx hby hZ (Cn := "java/lang/String") (a := x0) (argsL := []) (rest := [(.int (2 : Int32))]) hown (hw _ tw_47) (hw _ tw_48) (hw _ tw_50) (hw _ tw_49) (hw _ tw_3) (hw _ tw_51) (by decide) (rmlength0 l Z a0 hw x0 h0 G O E Fc Fv Vb) E e219 (by rw [hml]; rfl) pd_8 rfl (by decide) (W := 1) (Nat.le_refl _) (by decide) (by decide) (by decide) d1_27 rfl rfl (fun v221 T221 L221 X221 hQ221 => ?_)
      obtain ⟨rfl, rfl, e221⟩ := hQ221
      show Ends p.tables e below _ (T221.setTop (mkF m 30 #[.val (.ref x0), .val (.int (2 : Int32))] [(.int ((4 : Int32) >>> ((0 : Int32) &&& 31))), (.int (2 : Int32))]))
      show Ends p.tables e below _ (T221.setTop (mkF m 30 #[.val (.ref x0), .val (.int (2 : Int32))] [(.int (4 : Int32)), (.int (2 : Int32))]))
      refine own_icmp_ge X221 hx hby d1_30 (pcY := 52) (pcN := 33) (by decide) rfl (fun (hc222 : 4 ≤ 2) => False.elim (by exact absurd hc222 (by decide))) (fun (hc222 : 2 < 4) => ?_)
      refine own_aloadN X221 hx hby d1_33 rfl rfl rfl ?_
      refine own_iloadN X221 hx hby d1_34 rfl rfl ?_
      refine own_virtual X221 hx hby hZ (Cn := "java/lang/String") (a := x0) (argsL := [(.int (2 : Int32))]) (rest := []) hown (hw _ tw_57) (hw _ tw_58) (hw _ tw_60) (hw _ tw_59) (hw _ tw_3) (hw _ tw_61) (by decide) (rmcha0 l Z a0 hw x0 (2 : Int32) h0 G O E Fc Fv Vb (z := y2.toInt8.toInt32) rfl (by decide) (by decide)) E e221 (by rw [hml]; rfl) pd_9 rfl (by decide) (W := 0) (Nat.le_refl _) (by decide) (by decide) (by decide) d1_35 rfl rfl (fun v223 T223 L223 X223 hQ223 => ?_)
      obtain ⟨rfl, rfl, e223⟩ := hQ223
      rw [own_lat hr2]
      show Ends p.tables e below _ (T223.setTop (mkF m 38 #[.val (.ref x0), .val (.int (2 : Int32))] [(.int y2)]))
      refine own_static X223 hx hby hZ (argsL := [(.int y2)]) (rest := []) hown (hw _ tw_79) (hw _ tw_80) (hw _ tw_12) (hw _ tw_81) (by decide) (rm17 l Z a0 hw y2 h0) e223 (by rw [hml]; rfl) pd_0 rfl (by decide) (W := 0) (Nat.le_refl _) (by decide) (by decide) (by decide) d1_38 rfl rfl (fun v224 T224 L224 X224 hQ224 => ?_)
      obtain ⟨rfl, rfl, e224⟩ := hQ224
      show Ends p.tables e below _ (T224.setTop (mkF m 41 #[.val (.ref x0), .val (.int (2 : Int32))] [(.int (own_ok y2))]))
      refine own_if_ne X224 hx hby d1_41 (pcY := 46) (pcN := 44) (by decide) rfl (fun (hc225 : ¬ (own_ok y2) = (0 : Int32)) => ?_) (fun (hc225 : (own_ok y2) = (0 : Int32)) => ?_)
      · -- pc 41: t
        refine own_iinc X224 hx hby d1_46 rfl (1 : Int32) rfl #[.val (.ref x0), .val (.int (3 : Int32))] rfl rfl ?_
        refine own_goto X224 hx hby d1_49 (pc' := 25) (by decide) ?_
        refine own_iloadN X224 hx hby d1_25 rfl rfl ?_
        refine own_aloadN X224 hx hby d1_26 rfl rfl rfl ?_
        refine own_virtual X224 hx hby hZ (Cn := "java/lang/String") (a := x0) (argsL := []) (rest := [(.int (3 : Int32))]) hown (hw _ tw_47) (hw _ tw_48) (hw _ tw_50) (hw _ tw_49) (hw _ tw_3) (hw _ tw_51) (by decide) (rmlength0 l Z a0 hw x0 h0 G O E Fc Fv Vb) E e224 (by rw [hml]; rfl) pd_8 rfl (by decide) (W := 1) (Nat.le_refl _) (by decide) (by decide) (by decide) d1_27 rfl rfl (fun v226 T226 L226 X226 hQ226 => ?_)
        obtain ⟨rfl, rfl, e226⟩ := hQ226
        show Ends p.tables e below _ (T226.setTop (mkF m 30 #[.val (.ref x0), .val (.int (3 : Int32))] [(.int ((4 : Int32) >>> ((0 : Int32) &&& 31))), (.int (3 : Int32))]))
        show Ends p.tables e below _ (T226.setTop (mkF m 30 #[.val (.ref x0), .val (.int (3 : Int32))] [(.int (4 : Int32)), (.int (3 : Int32))]))
        refine own_icmp_ge X226 hx hby d1_30 (pcY := 52) (pcN := 33) (by decide) rfl (fun (hc227 : 4 ≤ 3) => False.elim (by exact absurd hc227 (by decide))) (fun (hc227 : 3 < 4) => ?_)
        refine own_aloadN X226 hx hby d1_33 rfl rfl rfl ?_
        refine own_iloadN X226 hx hby d1_34 rfl rfl ?_
        refine own_virtual X226 hx hby hZ (Cn := "java/lang/String") (a := x0) (argsL := [(.int (3 : Int32))]) (rest := []) hown (hw _ tw_57) (hw _ tw_58) (hw _ tw_60) (hw _ tw_59) (hw _ tw_3) (hw _ tw_61) (by decide) (rmcha0 l Z a0 hw x0 (3 : Int32) h0 G O E Fc Fv Vb (z := y3.toInt8.toInt32) rfl (by decide) (by decide)) E e226 (by rw [hml]; rfl) pd_9 rfl (by decide) (W := 0) (Nat.le_refl _) (by decide) (by decide) (by decide) d1_35 rfl rfl (fun v228 T228 L228 X228 hQ228 => ?_)
        obtain ⟨rfl, rfl, e228⟩ := hQ228
        rw [own_lat hr3]
        show Ends p.tables e below _ (T228.setTop (mkF m 38 #[.val (.ref x0), .val (.int (3 : Int32))] [(.int y3)]))
        refine own_static X228 hx hby hZ (argsL := [(.int y3)]) (rest := []) hown (hw _ tw_79) (hw _ tw_80) (hw _ tw_12) (hw _ tw_81) (by decide) (rm17 l Z a0 hw y3 h0) e228 (by rw [hml]; rfl) pd_0 rfl (by decide) (W := 0) (Nat.le_refl _) (by decide) (by decide) (by decide) d1_38 rfl rfl (fun v229 T229 L229 X229 hQ229 => ?_)
        obtain ⟨rfl, rfl, e229⟩ := hQ229
        show Ends p.tables e below _ (T229.setTop (mkF m 41 #[.val (.ref x0), .val (.int (3 : Int32))] [(.int (own_ok y3))]))
        refine own_if_ne X229 hx hby d1_41 (pcY := 46) (pcN := 44) (by decide) rfl (fun (hc230 : ¬ (own_ok y3) = (0 : Int32)) => ?_) (fun (hc230 : (own_ok y3) = (0 : Int32)) => ?_)
        · -- pc 41: t
          refine own_iinc X229 hx hby d1_46 rfl (1 : Int32) rfl #[.val (.ref x0), .val (.int (4 : Int32))] rfl rfl ?_
          refine own_goto X229 hx hby d1_49 (pc' := 25) (by decide) ?_
          refine own_iloadN X229 hx hby d1_25 rfl rfl ?_
          refine own_aloadN X229 hx hby d1_26 rfl rfl rfl ?_
          refine own_virtual X229 hx hby hZ (Cn := "java/lang/String") (a := x0) (argsL := []) (rest := [(.int (4 : Int32))]) hown (hw _ tw_47) (hw _ tw_48) (hw _ tw_50) (hw _ tw_49) (hw _ tw_3) (hw _ tw_51) (by decide) (rmlength0 l Z a0 hw x0 h0 G O E Fc Fv Vb) E e229 (by rw [hml]; rfl) pd_8 rfl (by decide) (W := 1) (Nat.le_refl _) (by decide) (by decide) (by decide) d1_27 rfl rfl (fun v231 T231 L231 X231 hQ231 => ?_)
          obtain ⟨rfl, rfl, e231⟩ := hQ231
          show Ends p.tables e below _ (T231.setTop (mkF m 30 #[.val (.ref x0), .val (.int (4 : Int32))] [(.int ((4 : Int32) >>> ((0 : Int32) &&& 31))), (.int (4 : Int32))]))
          show Ends p.tables e below _ (T231.setTop (mkF m 30 #[.val (.ref x0), .val (.int (4 : Int32))] [(.int (4 : Int32)), (.int (4 : Int32))]))
          refine own_icmp_ge X231 hx hby d1_30 (pcY := 52) (pcN := 33) (by decide) rfl (fun (hc232 : 4 ≤ 4) => ?_) (fun (hc232 : 4 < 4) => False.elim (by exact absurd hc232 (by decide)))
          refine own_iconst X231 hx hby d1_52 rfl (1 : Int32) rfl ?_
          refine own_ret X231 hx hby hret hlk d1_53 (.int (1 : Int32)) rfl (Or.inl ⟨rfl, by simp, _, rfl⟩) (by decide) (by decide) ?_
          exact ⟨congrArg (fun z => some (Value.int z)) (by rw [own_all1 hc215, own_all1 hc220, own_all1 hc225, own_all1 hc230]; rfl), rfl, e231⟩
        · -- pc 41: f
          refine own_iconst X229 hx hby d1_44 rfl (0 : Int32) rfl ?_
          refine own_ret X229 hx hby hret hlk d1_45 (.int (0 : Int32)) rfl (Or.inl ⟨rfl, by simp, _, rfl⟩) (by decide) (by decide) ?_
          exact ⟨congrArg (fun z => some (Value.int z)) (by rw [own_all1 hc215, own_all1 hc220, own_all1 hc225, own_all0 hc230]), rfl, e229⟩
      · -- pc 41: f
        refine own_iconst X224 hx hby d1_44 rfl (0 : Int32) rfl ?_
        refine own_ret X224 hx hby hret hlk d1_45 (.int (0 : Int32)) rfl (Or.inl ⟨rfl, by simp, _, rfl⟩) (by decide) (by decide) ?_
        exact ⟨congrArg (fun z => some (Value.int z)) (by rw [own_all1 hc215, own_all1 hc220, own_all0 hc225]), rfl, e224⟩
    · -- pc 41: f
      refine own_iconst X219 hx hby d1_44 rfl (0 : Int32) rfl ?_
      refine own_ret X219 hx hby hret hlk d1_45 (.int (0 : Int32)) rfl (Or.inl ⟨rfl, by simp, _, rfl⟩) (by decide) (by decide) ?_
      exact ⟨congrArg (fun z => some (Value.int z)) (by rw [own_all1 hc215, own_all0 hc220]), rfl, e219⟩
  · -- pc 41: f
    refine own_iconst X214 hx hby d1_44 rfl (0 : Int32) rfl ?_
    refine own_ret X214 hx hby hret hlk d1_45 (.int (0 : Int32)) rfl (Or.inl ⟨rfl, by simp, _, rfl⟩) (by decide) (by decide) ?_
    exact ⟨congrArg (fun z => some (Value.int z)) (by rw [own_all0 hc215]), rfl, e214⟩
set_option maxRecDepth 65536 in
set_option maxHeartbeats 40000000 in
theorem rmv1_4 (l : Launch) (Z : State) (a0 : Array Value) (hw : ∀ d ∈ tables_1, d.before a0 Z = true) (x0 : Addr) (h0 : Heap) {ks : Int32} {fm : Value} (G : OwnGl Z ks fm) (O : Ext Z.heap h0) {y0 y1 y2 y3 : Int32} (hr0 : 0 ≤ y0.toInt ∧ y0.toInt < 65536) (hr1 : 0 ≤ y1.toInt ∧ y1.toInt < 65536) (hr2 : 0 ≤ y2.toInt ∧ y2.toInt < 65536) (hr3 : 0 ≤ y3.toInt ∧ y3.toInt < 65536) {b1 : Addr} {k1 : ClassId} (E : Exa Z h0 x0 "java/lang/String") (Fc : Fld Z h0 x0 "java/lang/String" "coder" "B" (.int (1 : Int32))) (Fv : Fld Z h0 x0 "java/lang/String" "value" "[B" (.ref b1)) (Vb : Arv Z h0 b1 k1 .byte (8 : Int32) [.int (y0 >>> ((0 : Int32) &&& 31)).toInt8.toInt32, .int (y0 >>> ((8 : Int32) &&& 31)).toInt8.toInt32, .int (y1 >>> ((0 : Int32) &&& 31)).toInt8.toInt32, .int (y1 >>> ((8 : Int32) &&& 31)).toInt8.toInt32, .int (y2 >>> ((0 : Int32) &&& 31)).toInt8.toInt32, .int (y2 >>> ((8 : Int32) &&& 31)).toInt8.toInt32, .int (y3 >>> ((0 : Int32) &&& 31)).toInt8.toInt32, .int (y3 >>> ((8 : Int32) &&& 31)).toInt8.toInt32] (.int 0)) :
    OwnMet l Z (⟨"com/example/uni_errors/unierrors/CorrelationHeaders", "isValidId", "(Ljava/lang/String;)Z"⟩ : MethodName) prog_5_method_6_code 2 (some .boolean) [] ({ frames := 5, cells := 0, slots := 0, locals := 68 } : Room) #[(.ref x0)] h0 (fun v h L => v = some (.int (own_all [y0, y1, y2, y3])) ∧ L = [] ∧ h = h0) := by
  refine own_body (plainFor_of_name pn_1) (fun m => ef_v1_4 m x0) ?_
  intro p e s m below meth c s₁ X0 hx hby hml hown hnm hret hlk hZ e0
  replace hown : s.vm.findClass "com/example/uni_errors/unierrors/CorrelationHeaders" = some m.cls := hown
  replace hml : c.maxLocals = 2 := hml
  show Ends p.tables e below _ (s₁.setTop (mkF m 0 #[.val (.ref x0), .unset] []))
  have i0 : (0 : Int32).toInt = 0 := rfl
  have i128 : (128 : Int32).toInt = 128 := rfl
  show Ends p.tables e below _ (s₁.setTop (mkF m 0 #[.val (.ref x0), .unset] []))
  refine own_aloadN X0 hx hby d1_0 rfl rfl rfl ?_
  refine own_ifnullNo X0 hx hby d1_1 rfl ?_
  refine own_aloadN X0 hx hby d1_4 rfl rfl rfl ?_
  refine own_virtual X0 hx hby hZ (Cn := "java/lang/String") (a := x0) (argsL := []) (rest := []) hown (hw _ tw_14) (hw _ tw_15) (hw _ tw_17) (hw _ tw_16) (hw _ tw_3) (hw _ tw_18) (by decide) (rmise1 l Z a0 hw x0 h0 G O E Fc Fv Vb (by decide)) E e0 (by rw [hml]; rfl) pd_7 rfl (by decide) (W := 0) (Nat.le_refl _) (by decide) (by decide) (by decide) d1_5 rfl rfl (fun v233 T233 L233 X233 hQ233 => ?_)
  obtain ⟨rfl, rfl, e233⟩ := hQ233
  show Ends p.tables e below _ (T233.setTop (mkF m 8 #[.val (.ref x0), .unset] [(.int (0 : Int32))]))
  refine own_if_ne X233 hx hby d1_8 (pcY := 21) (pcN := 11) (by decide) rfl (fun (hc234 : ¬ (0 : Int32) = (0 : Int32)) => False.elim (by exact absurd hc234 (by decide))) (fun (hc234 : (0 : Int32) = (0 : Int32)) => ?_)
  refine own_aloadN X233 hx hby d1_11 rfl rfl rfl ?_
  refine own_virtual X233 hx hby hZ (Cn := "java/lang/String") (a := x0) (argsL := []) (rest := []) hown (hw _ tw_47) (hw _ tw_48) (hw _ tw_50) (hw _ tw_49) (hw _ tw_3) (hw _ tw_51) (by decide) (rmlength1 l Z a0 hw x0 h0 G O E Fc Fv Vb) E e233 (by rw [hml]; rfl) pd_8 rfl (by decide) (W := 0) (Nat.le_refl _) (by decide) (by decide) (by decide) d1_12 rfl rfl (fun v235 T235 L235 X235 hQ235 => ?_)
  obtain ⟨rfl, rfl, e235⟩ := hQ235
  show Ends p.tables e below _ (T235.setTop (mkF m 15 #[.val (.ref x0), .unset] [(.int ((8 : Int32) >>> ((1 : Int32) &&& 31)))]))
  show Ends p.tables e below _ (T235.setTop (mkF m 15 #[.val (.ref x0), .unset] [(.int (4 : Int32))]))
  refine own_sipush X235 hx hby d1_15 rfl (128 : Int32) rfl ?_
  refine own_icmp_le X235 hx hby d1_18 (pcY := 23) (pcN := 21) (by decide) rfl (fun (hc236 : 4 ≤ 128) => ?_) (fun (hc236 : 128 < 4) => False.elim (by exact absurd hc236 (by decide)))
  refine own_iconst X235 hx hby d1_23 rfl (0 : Int32) rfl ?_
  refine own_istoreN X235 hx hby d1_24 rfl #[.val (.ref x0), .val (.int (0 : Int32))] rfl ?_
  refine own_iloadN X235 hx hby d1_25 rfl rfl ?_
  refine own_aloadN X235 hx hby d1_26 rfl rfl rfl ?_
  refine own_virtual X235 hx hby hZ (Cn := "java/lang/String") (a := x0) (argsL := []) (rest := [(.int (0 : Int32))]) hown (hw _ tw_47) (hw _ tw_48) (hw _ tw_50) (hw _ tw_49) (hw _ tw_3) (hw _ tw_51) (by decide) (rmlength1 l Z a0 hw x0 h0 G O E Fc Fv Vb) E e235 (by rw [hml]; rfl) pd_8 rfl (by decide) (W := 1) (Nat.le_refl _) (by decide) (by decide) (by decide) d1_27 rfl rfl (fun v237 T237 L237 X237 hQ237 => ?_)
  obtain ⟨rfl, rfl, e237⟩ := hQ237
  show Ends p.tables e below _ (T237.setTop (mkF m 30 #[.val (.ref x0), .val (.int (0 : Int32))] [(.int ((8 : Int32) >>> ((1 : Int32) &&& 31))), (.int (0 : Int32))]))
  show Ends p.tables e below _ (T237.setTop (mkF m 30 #[.val (.ref x0), .val (.int (0 : Int32))] [(.int (4 : Int32)), (.int (0 : Int32))]))
  refine own_icmp_ge X237 hx hby d1_30 (pcY := 52) (pcN := 33) (by decide) rfl (fun (hc238 : 4 ≤ 0) => False.elim (by exact absurd hc238 (by decide))) (fun (hc238 : 0 < 4) => ?_)
  refine own_aloadN X237 hx hby d1_33 rfl rfl rfl ?_
  refine own_iloadN X237 hx hby d1_34 rfl rfl ?_
  refine own_virtual X237 hx hby hZ (Cn := "java/lang/String") (a := x0) (argsL := [(.int (0 : Int32))]) (rest := []) hown (hw _ tw_57) (hw _ tw_58) (hw _ tw_60) (hw _ tw_59) (hw _ tw_3) (hw _ tw_61) (by decide) (rmcha1 l Z a0 hw x0 (0 : Int32) h0 G O E Fc Fv Vb (by decide) (by decide) (by decide) (by decide) rfl rfl (own_utf hr0) hr0) E e237 (by rw [hml]; rfl) pd_9 rfl (by decide) (W := 0) (Nat.le_refl _) (by decide) (by decide) (by decide) d1_35 rfl rfl (fun v239 T239 L239 X239 hQ239 => ?_)
  obtain ⟨rfl, rfl, e239⟩ := hQ239
  show Ends p.tables e below _ (T239.setTop (mkF m 38 #[.val (.ref x0), .val (.int (0 : Int32))] [(.int y0)]))
  refine own_static X239 hx hby hZ (argsL := [(.int y0)]) (rest := []) hown (hw _ tw_79) (hw _ tw_80) (hw _ tw_12) (hw _ tw_81) (by decide) (rm17 l Z a0 hw y0 h0) e239 (by rw [hml]; rfl) pd_0 rfl (by decide) (W := 0) (Nat.le_refl _) (by decide) (by decide) (by decide) d1_38 rfl rfl (fun v240 T240 L240 X240 hQ240 => ?_)
  obtain ⟨rfl, rfl, e240⟩ := hQ240
  show Ends p.tables e below _ (T240.setTop (mkF m 41 #[.val (.ref x0), .val (.int (0 : Int32))] [(.int (own_ok y0))]))
  refine own_if_ne X240 hx hby d1_41 (pcY := 46) (pcN := 44) (by decide) rfl (fun (hc241 : ¬ (own_ok y0) = (0 : Int32)) => ?_) (fun (hc241 : (own_ok y0) = (0 : Int32)) => ?_)
  · -- pc 41: t
    refine own_iinc X240 hx hby d1_46 rfl (1 : Int32) rfl #[.val (.ref x0), .val (.int (1 : Int32))] rfl rfl ?_
    refine own_goto X240 hx hby d1_49 (pc' := 25) (by decide) ?_
    refine own_iloadN X240 hx hby d1_25 rfl rfl ?_
    refine own_aloadN X240 hx hby d1_26 rfl rfl rfl ?_
    refine own_virtual X240 hx hby hZ (Cn := "java/lang/String") (a := x0) (argsL := []) (rest := [(.int (1 : Int32))]) hown (hw _ tw_47) (hw _ tw_48) (hw _ tw_50) (hw _ tw_49) (hw _ tw_3) (hw _ tw_51) (by decide) (rmlength1 l Z a0 hw x0 h0 G O E Fc Fv Vb) E e240 (by rw [hml]; rfl) pd_8 rfl (by decide) (W := 1) (Nat.le_refl _) (by decide) (by decide) (by decide) d1_27 rfl rfl (fun v242 T242 L242 X242 hQ242 => ?_)
    obtain ⟨rfl, rfl, e242⟩ := hQ242
    show Ends p.tables e below _ (T242.setTop (mkF m 30 #[.val (.ref x0), .val (.int (1 : Int32))] [(.int ((8 : Int32) >>> ((1 : Int32) &&& 31))), (.int (1 : Int32))]))
    show Ends p.tables e below _ (T242.setTop (mkF m 30 #[.val (.ref x0), .val (.int (1 : Int32))] [(.int (4 : Int32)), (.int (1 : Int32))]))
    refine own_icmp_ge X242 hx hby d1_30 (pcY := 52) (pcN := 33) (by decide) rfl (fun (hc243 : 4 ≤ 1) => False.elim (by exact absurd hc243 (by decide))) (fun (hc243 : 1 < 4) => ?_)
    refine own_aloadN X242 hx hby d1_33 rfl rfl rfl ?_
    refine own_iloadN X242 hx hby d1_34 rfl rfl ?_
    refine own_virtual X242 hx hby hZ (Cn := "java/lang/String") (a := x0) (argsL := [(.int (1 : Int32))]) (rest := []) hown (hw _ tw_57) (hw _ tw_58) (hw _ tw_60) (hw _ tw_59) (hw _ tw_3) (hw _ tw_61) (by decide) (rmcha1 l Z a0 hw x0 (1 : Int32) h0 G O E Fc Fv Vb (by decide) (by decide) (by decide) (by decide) rfl rfl (own_utf hr1) hr1) E e242 (by rw [hml]; rfl) pd_9 rfl (by decide) (W := 0) (Nat.le_refl _) (by decide) (by decide) (by decide) d1_35 rfl rfl (fun v244 T244 L244 X244 hQ244 => ?_)
    obtain ⟨rfl, rfl, e244⟩ := hQ244
    show Ends p.tables e below _ (T244.setTop (mkF m 38 #[.val (.ref x0), .val (.int (1 : Int32))] [(.int y1)]))
    refine own_static X244 hx hby hZ (argsL := [(.int y1)]) (rest := []) hown (hw _ tw_79) (hw _ tw_80) (hw _ tw_12) (hw _ tw_81) (by decide) (rm17 l Z a0 hw y1 h0) e244 (by rw [hml]; rfl) pd_0 rfl (by decide) (W := 0) (Nat.le_refl _) (by decide) (by decide) (by decide) d1_38 rfl rfl (fun v245 T245 L245 X245 hQ245 => ?_)
    obtain ⟨rfl, rfl, e245⟩ := hQ245
    show Ends p.tables e below _ (T245.setTop (mkF m 41 #[.val (.ref x0), .val (.int (1 : Int32))] [(.int (own_ok y1))]))
    refine own_if_ne X245 hx hby d1_41 (pcY := 46) (pcN := 44) (by decide) rfl (fun (hc246 : ¬ (own_ok y1) = (0 : Int32)) => ?_) (fun (hc246 : (own_ok y1) = (0 : Int32)) => ?_)
    · -- pc 41: t
      refine own_iinc X245 hx hby d1_46 rfl (1 : Int32) rfl #[.val (.ref x0), .val (.int (2 : Int32))] rfl rfl ?_
      refine own_goto X245 hx hby d1_49 (pc' := 25) (by decide) ?_
      refine own_iloadN X245 hx hby d1_25 rfl rfl ?_
      refine own_aloadN X245 hx hby d1_26 rfl rfl rfl ?_
      refine own_virtual X245 hx hby hZ (Cn := "java/lang/String") (a := x0) (argsL := []) (rest := [(.int (2 : Int32))]) hown (hw _ tw_47) (hw _ tw_48) (hw _ tw_50) (hw _ tw_49) (hw _ tw_3) (hw _ tw_51) (by decide) (rmlength1 l Z a0 hw x0 h0 G O E Fc Fv Vb) E e245 (by rw [hml]; rfl) pd_8 rfl (by decide) (W := 1) (Nat.le_refl _) (by decide) (by decide) (by decide) d1_27 rfl rfl (fun v247 T247 L247 X247 hQ247 => ?_)
      obtain ⟨rfl, rfl, e247⟩ := hQ247
      show Ends p.tables e below _ (T247.setTop (mkF m 30 #[.val (.ref x0), .val (.int (2 : Int32))] [(.int ((8 : Int32) >>> ((1 : Int32) &&& 31))), (.int (2 : Int32))]))
      show Ends p.tables e below _ (T247.setTop (mkF m 30 #[.val (.ref x0), .val (.int (2 : Int32))] [(.int (4 : Int32)), (.int (2 : Int32))]))
      refine own_icmp_ge X247 hx hby d1_30 (pcY := 52) (pcN := 33) (by decide) rfl (fun (hc248 : 4 ≤ 2) => False.elim (by exact absurd hc248 (by decide))) (fun (hc248 : 2 < 4) => ?_)
      refine own_aloadN X247 hx hby d1_33 rfl rfl rfl ?_
      refine own_iloadN X247 hx hby d1_34 rfl rfl ?_
      refine own_virtual X247 hx hby hZ (Cn := "java/lang/String") (a := x0) (argsL := [(.int (2 : Int32))]) (rest := []) hown (hw _ tw_57) (hw _ tw_58) (hw _ tw_60) (hw _ tw_59) (hw _ tw_3) (hw _ tw_61) (by decide) (rmcha1 l Z a0 hw x0 (2 : Int32) h0 G O E Fc Fv Vb (by decide) (by decide) (by decide) (by decide) rfl rfl (own_utf hr2) hr2) E e247 (by rw [hml]; rfl) pd_9 rfl (by decide) (W := 0) (Nat.le_refl _) (by decide) (by decide) (by decide) d1_35 rfl rfl (fun v249 T249 L249 X249 hQ249 => ?_)
      obtain ⟨rfl, rfl, e249⟩ := hQ249
      show Ends p.tables e below _ (T249.setTop (mkF m 38 #[.val (.ref x0), .val (.int (2 : Int32))] [(.int y2)]))
      refine own_static X249 hx hby hZ (argsL := [(.int y2)]) (rest := []) hown (hw _ tw_79) (hw _ tw_80) (hw _ tw_12) (hw _ tw_81) (by decide) (rm17 l Z a0 hw y2 h0) e249 (by rw [hml]; rfl) pd_0 rfl (by decide) (W := 0) (Nat.le_refl _) (by decide) (by decide) (by decide) d1_38 rfl rfl (fun v250 T250 L250 X250 hQ250 => ?_)
      obtain ⟨rfl, rfl, e250⟩ := hQ250
      show Ends p.tables e below _ (T250.setTop (mkF m 41 #[.val (.ref x0), .val (.int (2 : Int32))] [(.int (own_ok y2))]))
      refine own_if_ne X250 hx hby d1_41 (pcY := 46) (pcN := 44) (by decide) rfl (fun (hc251 : ¬ (own_ok y2) = (0 : Int32)) => ?_) (fun (hc251 : (own_ok y2) = (0 : Int32)) => ?_)
      · -- pc 41: t
        refine own_iinc X250 hx hby d1_46 rfl (1 : Int32) rfl #[.val (.ref x0), .val (.int (3 : Int32))] rfl rfl ?_
        refine own_goto X250 hx hby d1_49 (pc' := 25) (by decide) ?_
        refine own_iloadN X250 hx hby d1_25 rfl rfl ?_
        refine own_aloadN X250 hx hby d1_26 rfl rfl rfl ?_
        refine own_virtual X250 hx hby hZ (Cn := "java/lang/String") (a := x0) (argsL := []) (rest := [(.int (3 : Int32))]) hown (hw _ tw_47) (hw _ tw_48) (hw _ tw_50) (hw _ tw_49) (hw _ tw_3) (hw _ tw_51) (by decide) (rmlength1 l Z a0 hw x0 h0 G O E Fc Fv Vb) E e250 (by rw [hml]; rfl) pd_8 rfl (by decide) (W := 1) (Nat.le_refl _) (by decide) (by decide) (by decide) d1_27 rfl rfl (fun v252 T252 L252 X252 hQ252 => ?_)
        obtain ⟨rfl, rfl, e252⟩ := hQ252
        show Ends p.tables e below _ (T252.setTop (mkF m 30 #[.val (.ref x0), .val (.int (3 : Int32))] [(.int ((8 : Int32) >>> ((1 : Int32) &&& 31))), (.int (3 : Int32))]))
        show Ends p.tables e below _ (T252.setTop (mkF m 30 #[.val (.ref x0), .val (.int (3 : Int32))] [(.int (4 : Int32)), (.int (3 : Int32))]))
        refine own_icmp_ge X252 hx hby d1_30 (pcY := 52) (pcN := 33) (by decide) rfl (fun (hc253 : 4 ≤ 3) => False.elim (by exact absurd hc253 (by decide))) (fun (hc253 : 3 < 4) => ?_)
        refine own_aloadN X252 hx hby d1_33 rfl rfl rfl ?_
        refine own_iloadN X252 hx hby d1_34 rfl rfl ?_
        refine own_virtual X252 hx hby hZ (Cn := "java/lang/String") (a := x0) (argsL := [(.int (3 : Int32))]) (rest := []) hown (hw _ tw_57) (hw _ tw_58) (hw _ tw_60) (hw _ tw_59) (hw _ tw_3) (hw _ tw_61) (by decide) (rmcha1 l Z a0 hw x0 (3 : Int32) h0 G O E Fc Fv Vb (by decide) (by decide) (by decide) (by decide) rfl rfl (own_utf hr3) hr3) E e252 (by rw [hml]; rfl) pd_9 rfl (by decide) (W := 0) (Nat.le_refl _) (by decide) (by decide) (by decide) d1_35 rfl rfl (fun v254 T254 L254 X254 hQ254 => ?_)
        obtain ⟨rfl, rfl, e254⟩ := hQ254
        show Ends p.tables e below _ (T254.setTop (mkF m 38 #[.val (.ref x0), .val (.int (3 : Int32))] [(.int y3)]))
        refine own_static X254 hx hby hZ (argsL := [(.int y3)]) (rest := []) hown (hw _ tw_79) (hw _ tw_80) (hw _ tw_12) (hw _ tw_81) (by decide) (rm17 l Z a0 hw y3 h0) e254 (by rw [hml]; rfl) pd_0 rfl (by decide) (W := 0) (Nat.le_refl _) (by decide) (by decide) (by decide) d1_38 rfl rfl (fun v255 T255 L255 X255 hQ255 => ?_)
        obtain ⟨rfl, rfl, e255⟩ := hQ255
        show Ends p.tables e below _ (T255.setTop (mkF m 41 #[.val (.ref x0), .val (.int (3 : Int32))] [(.int (own_ok y3))]))
        refine own_if_ne X255 hx hby d1_41 (pcY := 46) (pcN := 44) (by decide) rfl (fun (hc256 : ¬ (own_ok y3) = (0 : Int32)) => ?_) (fun (hc256 : (own_ok y3) = (0 : Int32)) => ?_)
        · -- pc 41: t
          refine own_iinc X255 hx hby d1_46 rfl (1 : Int32) rfl #[.val (.ref x0), .val (.int (4 : Int32))] rfl rfl ?_
          refine own_goto X255 hx hby d1_49 (pc' := 25) (by decide) ?_
          refine own_iloadN X255 hx hby d1_25 rfl rfl ?_
          refine own_aloadN X255 hx hby d1_26 rfl rfl rfl ?_
          refine own_virtual X255 hx hby hZ (Cn := "java/lang/String") (a := x0) (argsL := []) (rest := [(.int (4 : Int32))]) hown (hw _ tw_47) (hw _ tw_48) (hw _ tw_50) (hw _ tw_49) (hw _ tw_3) (hw _ tw_51) (by decide) (rmlength1 l Z a0 hw x0 h0 G O E Fc Fv Vb) E e255 (by rw [hml]; rfl) pd_8 rfl (by decide) (W := 1) (Nat.le_refl _) (by decide) (by decide) (by decide) d1_27 rfl rfl (fun v257 T257 L257 X257 hQ257 => ?_)
          obtain ⟨rfl, rfl, e257⟩ := hQ257
          show Ends p.tables e below _ (T257.setTop (mkF m 30 #[.val (.ref x0), .val (.int (4 : Int32))] [(.int ((8 : Int32) >>> ((1 : Int32) &&& 31))), (.int (4 : Int32))]))
          show Ends p.tables e below _ (T257.setTop (mkF m 30 #[.val (.ref x0), .val (.int (4 : Int32))] [(.int (4 : Int32)), (.int (4 : Int32))]))
          refine own_icmp_ge X257 hx hby d1_30 (pcY := 52) (pcN := 33) (by decide) rfl (fun (hc258 : 4 ≤ 4) => ?_) (fun (hc258 : 4 < 4) => False.elim (by exact absurd hc258 (by decide)))
          refine own_iconst X257 hx hby d1_52 rfl (1 : Int32) rfl ?_
          refine own_ret X257 hx hby hret hlk d1_53 (.int (1 : Int32)) rfl (Or.inl ⟨rfl, by simp, _, rfl⟩) (by decide) (by decide) ?_
          exact ⟨congrArg (fun z => some (Value.int z)) (by rw [own_all1 hc241, own_all1 hc246, own_all1 hc251, own_all1 hc256]; rfl), rfl, e257⟩
        · -- pc 41: f
          refine own_iconst X255 hx hby d1_44 rfl (0 : Int32) rfl ?_
          refine own_ret X255 hx hby hret hlk d1_45 (.int (0 : Int32)) rfl (Or.inl ⟨rfl, by simp, _, rfl⟩) (by decide) (by decide) ?_
          exact ⟨congrArg (fun z => some (Value.int z)) (by rw [own_all1 hc241, own_all1 hc246, own_all1 hc251, own_all0 hc256]), rfl, e255⟩
      · -- pc 41: f
        refine own_iconst X250 hx hby d1_44 rfl (0 : Int32) rfl ?_
        refine own_ret X250 hx hby hret hlk d1_45 (.int (0 : Int32)) rfl (Or.inl ⟨rfl, by simp, _, rfl⟩) (by decide) (by decide) ?_
        exact ⟨congrArg (fun z => some (Value.int z)) (by rw [own_all1 hc241, own_all1 hc246, own_all0 hc251]), rfl, e250⟩
    · -- pc 41: f
      refine own_iconst X245 hx hby d1_44 rfl (0 : Int32) rfl ?_
      refine own_ret X245 hx hby hret hlk d1_45 (.int (0 : Int32)) rfl (Or.inl ⟨rfl, by simp, _, rfl⟩) (by decide) (by decide) ?_
      exact ⟨congrArg (fun z => some (Value.int z)) (by rw [own_all1 hc241, own_all0 hc246]), rfl, e245⟩
  · -- pc 41: f
    refine own_iconst X240 hx hby d1_44 rfl (0 : Int32) rfl ?_
    refine own_ret X240 hx hby hret hlk d1_45 (.int (0 : Int32)) rfl (Or.inl ⟨rfl, by simp, _, rfl⟩) (by decide) (by decide) ?_
    exact ⟨congrArg (fun z => some (Value.int z)) (by rw [own_all0 hc241]), rfl, e240⟩
set_option maxRecDepth 65536 in
set_option maxHeartbeats 40000000 in
theorem rmv0_5 (l : Launch) (Z : State) (a0 : Array Value) (hw : ∀ d ∈ tables_1, d.before a0 Z = true) (x0 : Addr) (h0 : Heap) {ks : Int32} {fm : Value} (G : OwnGl Z ks fm) (O : Ext Z.heap h0) {y0 y1 y2 y3 y4 : Int32} (hr0 : 0 ≤ y0.toInt ∧ y0.toInt ≤ 255) (hr1 : 0 ≤ y1.toInt ∧ y1.toInt ≤ 255) (hr2 : 0 ≤ y2.toInt ∧ y2.toInt ≤ 255) (hr3 : 0 ≤ y3.toInt ∧ y3.toInt ≤ 255) (hr4 : 0 ≤ y4.toInt ∧ y4.toInt ≤ 255) {b1 : Addr} {k1 : ClassId} (E : Exa Z h0 x0 "java/lang/String") (Fc : Fld Z h0 x0 "java/lang/String" "coder" "B" (.int (0 : Int32))) (Fv : Fld Z h0 x0 "java/lang/String" "value" "[B" (.ref b1)) (Vb : Arv Z h0 b1 k1 .byte (5 : Int32) [.int y0.toInt8.toInt32, .int y1.toInt8.toInt32, .int y2.toInt8.toInt32, .int y3.toInt8.toInt32, .int y4.toInt8.toInt32] (.int 0)) :
    OwnMet l Z (⟨"com/example/uni_errors/unierrors/CorrelationHeaders", "isValidId", "(Ljava/lang/String;)Z"⟩ : MethodName) prog_5_method_6_code 2 (some .boolean) [] ({ frames := 5, cells := 0, slots := 0, locals := 68 } : Room) #[(.ref x0)] h0 (fun v h L => v = some (.int (own_all [y0, y1, y2, y3, y4])) ∧ L = [] ∧ h = h0) := by
  refine own_body (plainFor_of_name pn_1) (fun m => ef_v0_5 m x0) ?_
  intro p e s m below meth c s₁ X0 hx hby hml hown hnm hret hlk hZ e0
  replace hown : s.vm.findClass "com/example/uni_errors/unierrors/CorrelationHeaders" = some m.cls := hown
  replace hml : c.maxLocals = 2 := hml
  show Ends p.tables e below _ (s₁.setTop (mkF m 0 #[.val (.ref x0), .unset] []))
  have i0 : (0 : Int32).toInt = 0 := rfl
  have i128 : (128 : Int32).toInt = 128 := rfl
  show Ends p.tables e below _ (s₁.setTop (mkF m 0 #[.val (.ref x0), .unset] []))
  refine own_aloadN X0 hx hby d1_0 rfl rfl rfl ?_
  refine own_ifnullNo X0 hx hby d1_1 rfl ?_
  refine own_aloadN X0 hx hby d1_4 rfl rfl rfl ?_
  refine own_virtual X0 hx hby hZ (Cn := "java/lang/String") (a := x0) (argsL := []) (rest := []) hown (hw _ tw_14) (hw _ tw_15) (hw _ tw_17) (hw _ tw_16) (hw _ tw_3) (hw _ tw_18) (by decide) (rmise1 l Z a0 hw x0 h0 G O E Fc Fv Vb (by decide)) E e0 (by rw [hml]; rfl) pd_7 rfl (by decide) (W := 0) (Nat.le_refl _) (by decide) (by decide) (by decide) d1_5 rfl rfl (fun v259 T259 L259 X259 hQ259 => ?_)
  obtain ⟨rfl, rfl, e259⟩ := hQ259
  show Ends p.tables e below _ (T259.setTop (mkF m 8 #[.val (.ref x0), .unset] [(.int (0 : Int32))]))
  refine own_if_ne X259 hx hby d1_8 (pcY := 21) (pcN := 11) (by decide) rfl (fun (hc260 : ¬ (0 : Int32) = (0 : Int32)) => False.elim (by exact absurd hc260 (by decide))) (fun (hc260 : (0 : Int32) = (0 : Int32)) => ?_)
  refine own_aloadN X259 hx hby d1_11 rfl rfl rfl ?_
  refine own_virtual X259 hx hby hZ (Cn := "java/lang/String") (a := x0) (argsL := []) (rest := []) hown (hw _ tw_47) (hw _ tw_48) (hw _ tw_50) (hw _ tw_49) (hw _ tw_3) (hw _ tw_51) (by decide) (rmlength0 l Z a0 hw x0 h0 G O E Fc Fv Vb) E e259 (by rw [hml]; rfl) pd_8 rfl (by decide) (W := 0) (Nat.le_refl _) (by decide) (by decide) (by decide) d1_12 rfl rfl (fun v261 T261 L261 X261 hQ261 => ?_)
  obtain ⟨rfl, rfl, e261⟩ := hQ261
  show Ends p.tables e below _ (T261.setTop (mkF m 15 #[.val (.ref x0), .unset] [(.int ((5 : Int32) >>> ((0 : Int32) &&& 31)))]))
  show Ends p.tables e below _ (T261.setTop (mkF m 15 #[.val (.ref x0), .unset] [(.int (5 : Int32))]))
  refine own_sipush X261 hx hby d1_15 rfl (128 : Int32) rfl ?_
  refine own_icmp_le X261 hx hby d1_18 (pcY := 23) (pcN := 21) (by decide) rfl (fun (hc262 : 5 ≤ 128) => ?_) (fun (hc262 : 128 < 5) => False.elim (by exact absurd hc262 (by decide)))
  refine own_iconst X261 hx hby d1_23 rfl (0 : Int32) rfl ?_
  refine own_istoreN X261 hx hby d1_24 rfl #[.val (.ref x0), .val (.int (0 : Int32))] rfl ?_
  refine own_iloadN X261 hx hby d1_25 rfl rfl ?_
  refine own_aloadN X261 hx hby d1_26 rfl rfl rfl ?_
  refine own_virtual X261 hx hby hZ (Cn := "java/lang/String") (a := x0) (argsL := []) (rest := [(.int (0 : Int32))]) hown (hw _ tw_47) (hw _ tw_48) (hw _ tw_50) (hw _ tw_49) (hw _ tw_3) (hw _ tw_51) (by decide) (rmlength0 l Z a0 hw x0 h0 G O E Fc Fv Vb) E e261 (by rw [hml]; rfl) pd_8 rfl (by decide) (W := 1) (Nat.le_refl _) (by decide) (by decide) (by decide) d1_27 rfl rfl (fun v263 T263 L263 X263 hQ263 => ?_)
  obtain ⟨rfl, rfl, e263⟩ := hQ263
  show Ends p.tables e below _ (T263.setTop (mkF m 30 #[.val (.ref x0), .val (.int (0 : Int32))] [(.int ((5 : Int32) >>> ((0 : Int32) &&& 31))), (.int (0 : Int32))]))
  show Ends p.tables e below _ (T263.setTop (mkF m 30 #[.val (.ref x0), .val (.int (0 : Int32))] [(.int (5 : Int32)), (.int (0 : Int32))]))
  refine own_icmp_ge X263 hx hby d1_30 (pcY := 52) (pcN := 33) (by decide) rfl (fun (hc264 : 5 ≤ 0) => False.elim (by exact absurd hc264 (by decide))) (fun (hc264 : 0 < 5) => ?_)
  refine own_aloadN X263 hx hby d1_33 rfl rfl rfl ?_
  refine own_iloadN X263 hx hby d1_34 rfl rfl ?_
  refine own_virtual X263 hx hby hZ (Cn := "java/lang/String") (a := x0) (argsL := [(.int (0 : Int32))]) (rest := []) hown (hw _ tw_57) (hw _ tw_58) (hw _ tw_60) (hw _ tw_59) (hw _ tw_3) (hw _ tw_61) (by decide) (rmcha0 l Z a0 hw x0 (0 : Int32) h0 G O E Fc Fv Vb (z := y0.toInt8.toInt32) rfl (by decide) (by decide)) E e263 (by rw [hml]; rfl) pd_9 rfl (by decide) (W := 0) (Nat.le_refl _) (by decide) (by decide) (by decide) d1_35 rfl rfl (fun v265 T265 L265 X265 hQ265 => ?_)
  obtain ⟨rfl, rfl, e265⟩ := hQ265
  rw [own_lat hr0]
  show Ends p.tables e below _ (T265.setTop (mkF m 38 #[.val (.ref x0), .val (.int (0 : Int32))] [(.int y0)]))
  refine own_static X265 hx hby hZ (argsL := [(.int y0)]) (rest := []) hown (hw _ tw_79) (hw _ tw_80) (hw _ tw_12) (hw _ tw_81) (by decide) (rm17 l Z a0 hw y0 h0) e265 (by rw [hml]; rfl) pd_0 rfl (by decide) (W := 0) (Nat.le_refl _) (by decide) (by decide) (by decide) d1_38 rfl rfl (fun v266 T266 L266 X266 hQ266 => ?_)
  obtain ⟨rfl, rfl, e266⟩ := hQ266
  show Ends p.tables e below _ (T266.setTop (mkF m 41 #[.val (.ref x0), .val (.int (0 : Int32))] [(.int (own_ok y0))]))
  refine own_if_ne X266 hx hby d1_41 (pcY := 46) (pcN := 44) (by decide) rfl (fun (hc267 : ¬ (own_ok y0) = (0 : Int32)) => ?_) (fun (hc267 : (own_ok y0) = (0 : Int32)) => ?_)
  · -- pc 41: t
    refine own_iinc X266 hx hby d1_46 rfl (1 : Int32) rfl #[.val (.ref x0), .val (.int (1 : Int32))] rfl rfl ?_
    refine own_goto X266 hx hby d1_49 (pc' := 25) (by decide) ?_
    refine own_iloadN X266 hx hby d1_25 rfl rfl ?_
    refine own_aloadN X266 hx hby d1_26 rfl rfl rfl ?_
    refine own_virtual X266 hx hby hZ (Cn := "java/lang/String") (a := x0) (argsL := []) (rest := [(.int (1 : Int32))]) hown (hw _ tw_47) (hw _ tw_48) (hw _ tw_50) (hw _ tw_49) (hw _ tw_3) (hw _ tw_51) (by decide) (rmlength0 l Z a0 hw x0 h0 G O E Fc Fv Vb) E e266 (by rw [hml]; rfl) pd_8 rfl (by decide) (W := 1) (Nat.le_refl _) (by decide) (by decide) (by decide) d1_27 rfl rfl (fun v268 T268 L268 X268 hQ268 => ?_)
    obtain ⟨rfl, rfl, e268⟩ := hQ268
    show Ends p.tables e below _ (T268.setTop (mkF m 30 #[.val (.ref x0), .val (.int (1 : Int32))] [(.int ((5 : Int32) >>> ((0 : Int32) &&& 31))), (.int (1 : Int32))]))
    show Ends p.tables e below _ (T268.setTop (mkF m 30 #[.val (.ref x0), .val (.int (1 : Int32))] [(.int (5 : Int32)), (.int (1 : Int32))]))
    refine own_icmp_ge X268 hx hby d1_30 (pcY := 52) (pcN := 33) (by decide) rfl (fun (hc269 : 5 ≤ 1) => False.elim (by exact absurd hc269 (by decide))) (fun (hc269 : 1 < 5) => ?_)
    refine own_aloadN X268 hx hby d1_33 rfl rfl rfl ?_
    refine own_iloadN X268 hx hby d1_34 rfl rfl ?_
    refine own_virtual X268 hx hby hZ (Cn := "java/lang/String") (a := x0) (argsL := [(.int (1 : Int32))]) (rest := []) hown (hw _ tw_57) (hw _ tw_58) (hw _ tw_60) (hw _ tw_59) (hw _ tw_3) (hw _ tw_61) (by decide) (rmcha0 l Z a0 hw x0 (1 : Int32) h0 G O E Fc Fv Vb (z := y1.toInt8.toInt32) rfl (by decide) (by decide)) E e268 (by rw [hml]; rfl) pd_9 rfl (by decide) (W := 0) (Nat.le_refl _) (by decide) (by decide) (by decide) d1_35 rfl rfl (fun v270 T270 L270 X270 hQ270 => ?_)
    obtain ⟨rfl, rfl, e270⟩ := hQ270
    rw [own_lat hr1]
    show Ends p.tables e below _ (T270.setTop (mkF m 38 #[.val (.ref x0), .val (.int (1 : Int32))] [(.int y1)]))
    refine own_static X270 hx hby hZ (argsL := [(.int y1)]) (rest := []) hown (hw _ tw_79) (hw _ tw_80) (hw _ tw_12) (hw _ tw_81) (by decide) (rm17 l Z a0 hw y1 h0) e270 (by rw [hml]; rfl) pd_0 rfl (by decide) (W := 0) (Nat.le_refl _) (by decide) (by decide) (by decide) d1_38 rfl rfl (fun v271 T271 L271 X271 hQ271 => ?_)
    obtain ⟨rfl, rfl, e271⟩ := hQ271
    show Ends p.tables e below _ (T271.setTop (mkF m 41 #[.val (.ref x0), .val (.int (1 : Int32))] [(.int (own_ok y1))]))
    refine own_if_ne X271 hx hby d1_41 (pcY := 46) (pcN := 44) (by decide) rfl (fun (hc272 : ¬ (own_ok y1) = (0 : Int32)) => ?_) (fun (hc272 : (own_ok y1) = (0 : Int32)) => ?_)
    · -- pc 41: t
      refine own_iinc X271 hx hby d1_46 rfl (1 : Int32) rfl #[.val (.ref x0), .val (.int (2 : Int32))] rfl rfl ?_
      refine own_goto X271 hx hby d1_49 (pc' := 25) (by decide) ?_
      refine own_iloadN X271 hx hby d1_25 rfl rfl ?_
      refine own_aloadN X271 hx hby d1_26 rfl rfl rfl ?_
      refine own_virtual X271 hx hby hZ (Cn := "java/lang/String") (a := x0) (argsL := []) (rest := [(.int (2 : Int32))]) hown (hw _ tw_47) (hw _ tw_48) (hw _ tw_50) (hw _ tw_49) (hw _ tw_3) (hw _ tw_51) (by decide) (rmlength0 l Z a0 hw x0 h0 G O E Fc Fv Vb) E e271 (by rw [hml]; rfl) pd_8 rfl (by decide) (W := 1) (Nat.le_refl _) (by decide) (by decide) (by decide) d1_27 rfl rfl (fun v273 T273 L273 X273 hQ273 => ?_)
      obtain ⟨rfl, rfl, e273⟩ := hQ273
      show Ends p.tables e below _ (T273.setTop (mkF m 30 #[.val (.ref x0), .val (.int (2 : Int32))] [(.int ((5 : Int32) >>> ((0 : Int32) &&& 31))), (.int (2 : Int32))]))
      show Ends p.tables e below _ (T273.setTop (mkF m 30 #[.val (.ref x0), .val (.int (2 : Int32))] [(.int (5 : Int32)), (.int (2 : Int32))]))
      refine own_icmp_ge X273 hx hby d1_30 (pcY := 52) (pcN := 33) (by decide) rfl (fun (hc274 : 5 ≤ 2) => False.elim (by exact absurd hc274 (by decide))) (fun (hc274 : 2 < 5) => ?_)
      refine own_aloadN X273 hx hby d1_33 rfl rfl rfl ?_
      refine own_iloadN X273 hx hby d1_34 rfl rfl ?_
      refine own_virtual X273 hx hby hZ (Cn := "java/lang/String") (a := x0) (argsL := [(.int (2 : Int32))]) (rest := []) hown (hw _ tw_57) (hw _ tw_58) (hw _ tw_60) (hw _ tw_59) (hw _ tw_3) (hw _ tw_61) (by decide) (rmcha0 l Z a0 hw x0 (2 : Int32) h0 G O E Fc Fv Vb (z := y2.toInt8.toInt32) rfl (by decide) (by decide)) E e273 (by rw [hml]; rfl) pd_9 rfl (by decide) (W := 0) (Nat.le_refl _) (by decide) (by decide) (by decide) d1_35 rfl rfl (fun v275 T275 L275 X275 hQ275 => ?_)
      obtain ⟨rfl, rfl, e275⟩ := hQ275
      rw [own_lat hr2]
      show Ends p.tables e below _ (T275.setTop (mkF m 38 #[.val (.ref x0), .val (.int (2 : Int32))] [(.int y2)]))
      refine own_static X275 hx hby hZ (argsL := [(.int y2)]) (rest := []) hown (hw _ tw_79) (hw _ tw_80) (hw _ tw_12) (hw _ tw_81) (by decide) (rm17 l Z a0 hw y2 h0) e275 (by rw [hml]; rfl) pd_0 rfl (by decide) (W := 0) (Nat.le_refl _) (by decide) (by decide) (by decide) d1_38 rfl rfl (fun v276 T276 L276 X276 hQ276 => ?_)
      obtain ⟨rfl, rfl, e276⟩ := hQ276
      show Ends p.tables e below _ (T276.setTop (mkF m 41 #[.val (.ref x0), .val (.int (2 : Int32))] [(.int (own_ok y2))]))
      refine own_if_ne X276 hx hby d1_41 (pcY := 46) (pcN := 44) (by decide) rfl (fun (hc277 : ¬ (own_ok y2) = (0 : Int32)) => ?_) (fun (hc277 : (own_ok y2) = (0 : Int32)) => ?_)
      · -- pc 41: t
        refine own_iinc X276 hx hby d1_46 rfl (1 : Int32) rfl #[.val (.ref x0), .val (.int (3 : Int32))] rfl rfl ?_
        refine own_goto X276 hx hby d1_49 (pc' := 25) (by decide) ?_
        refine own_iloadN X276 hx hby d1_25 rfl rfl ?_
        refine own_aloadN X276 hx hby d1_26 rfl rfl rfl ?_
        refine own_virtual X276 hx hby hZ (Cn := "java/lang/String") (a := x0) (argsL := []) (rest := [(.int (3 : Int32))]) hown (hw _ tw_47) (hw _ tw_48) (hw _ tw_50) (hw _ tw_49) (hw _ tw_3) (hw _ tw_51) (by decide) (rmlength0 l Z a0 hw x0 h0 G O E Fc Fv Vb) E e276 (by rw [hml]; rfl) pd_8 rfl (by decide) (W := 1) (Nat.le_refl _) (by decide) (by decide) (by decide) d1_27 rfl rfl (fun v278 T278 L278 X278 hQ278 => ?_)
        obtain ⟨rfl, rfl, e278⟩ := hQ278
        show Ends p.tables e below _ (T278.setTop (mkF m 30 #[.val (.ref x0), .val (.int (3 : Int32))] [(.int ((5 : Int32) >>> ((0 : Int32) &&& 31))), (.int (3 : Int32))]))
        show Ends p.tables e below _ (T278.setTop (mkF m 30 #[.val (.ref x0), .val (.int (3 : Int32))] [(.int (5 : Int32)), (.int (3 : Int32))]))
        refine own_icmp_ge X278 hx hby d1_30 (pcY := 52) (pcN := 33) (by decide) rfl (fun (hc279 : 5 ≤ 3) => False.elim (by exact absurd hc279 (by decide))) (fun (hc279 : 3 < 5) => ?_)
        refine own_aloadN X278 hx hby d1_33 rfl rfl rfl ?_
        refine own_iloadN X278 hx hby d1_34 rfl rfl ?_
        refine own_virtual X278 hx hby hZ (Cn := "java/lang/String") (a := x0) (argsL := [(.int (3 : Int32))]) (rest := []) hown (hw _ tw_57) (hw _ tw_58) (hw _ tw_60) (hw _ tw_59) (hw _ tw_3) (hw _ tw_61) (by decide) (rmcha0 l Z a0 hw x0 (3 : Int32) h0 G O E Fc Fv Vb (z := y3.toInt8.toInt32) rfl (by decide) (by decide)) E e278 (by rw [hml]; rfl) pd_9 rfl (by decide) (W := 0) (Nat.le_refl _) (by decide) (by decide) (by decide) d1_35 rfl rfl (fun v280 T280 L280 X280 hQ280 => ?_)
        obtain ⟨rfl, rfl, e280⟩ := hQ280
        rw [own_lat hr3]
        show Ends p.tables e below _ (T280.setTop (mkF m 38 #[.val (.ref x0), .val (.int (3 : Int32))] [(.int y3)]))
        refine own_static X280 hx hby hZ (argsL := [(.int y3)]) (rest := []) hown (hw _ tw_79) (hw _ tw_80) (hw _ tw_12) (hw _ tw_81) (by decide) (rm17 l Z a0 hw y3 h0) e280 (by rw [hml]; rfl) pd_0 rfl (by decide) (W := 0) (Nat.le_refl _) (by decide) (by decide) (by decide) d1_38 rfl rfl (fun v281 T281 L281 X281 hQ281 => ?_)
        obtain ⟨rfl, rfl, e281⟩ := hQ281
        show Ends p.tables e below _ (T281.setTop (mkF m 41 #[.val (.ref x0), .val (.int (3 : Int32))] [(.int (own_ok y3))]))
        refine own_if_ne X281 hx hby d1_41 (pcY := 46) (pcN := 44) (by decide) rfl (fun (hc282 : ¬ (own_ok y3) = (0 : Int32)) => ?_) (fun (hc282 : (own_ok y3) = (0 : Int32)) => ?_)
        · -- pc 41: t
          refine own_iinc X281 hx hby d1_46 rfl (1 : Int32) rfl #[.val (.ref x0), .val (.int (4 : Int32))] rfl rfl ?_
          refine own_goto X281 hx hby d1_49 (pc' := 25) (by decide) ?_
          refine own_iloadN X281 hx hby d1_25 rfl rfl ?_
          refine own_aloadN X281 hx hby d1_26 rfl rfl rfl ?_
          refine own_virtual X281 hx hby hZ (Cn := "java/lang/String") (a := x0) (argsL := []) (rest := [(.int (4 : Int32))]) hown (hw _ tw_47) (hw _ tw_48) (hw _ tw_50) (hw _ tw_49) (hw _ tw_3) (hw _ tw_51) (by decide) (rmlength0 l Z a0 hw x0 h0 G O E Fc Fv Vb) E e281 (by rw [hml]; rfl) pd_8 rfl (by decide) (W := 1) (Nat.le_refl _) (by decide) (by decide) (by decide) d1_27 rfl rfl (fun v283 T283 L283 X283 hQ283 => ?_)
          obtain ⟨rfl, rfl, e283⟩ := hQ283
          show Ends p.tables e below _ (T283.setTop (mkF m 30 #[.val (.ref x0), .val (.int (4 : Int32))] [(.int ((5 : Int32) >>> ((0 : Int32) &&& 31))), (.int (4 : Int32))]))
          show Ends p.tables e below _ (T283.setTop (mkF m 30 #[.val (.ref x0), .val (.int (4 : Int32))] [(.int (5 : Int32)), (.int (4 : Int32))]))
          refine own_icmp_ge X283 hx hby d1_30 (pcY := 52) (pcN := 33) (by decide) rfl (fun (hc284 : 5 ≤ 4) => False.elim (by exact absurd hc284 (by decide))) (fun (hc284 : 4 < 5) => ?_)
          refine own_aloadN X283 hx hby d1_33 rfl rfl rfl ?_
          refine own_iloadN X283 hx hby d1_34 rfl rfl ?_
          refine own_virtual X283 hx hby hZ (Cn := "java/lang/String") (a := x0) (argsL := [(.int (4 : Int32))]) (rest := []) hown (hw _ tw_57) (hw _ tw_58) (hw _ tw_60) (hw _ tw_59) (hw _ tw_3) (hw _ tw_61) (by decide) (rmcha0 l Z a0 hw x0 (4 : Int32) h0 G O E Fc Fv Vb (z := y4.toInt8.toInt32) rfl (by decide) (by decide)) E e283 (by rw [hml]; rfl) pd_9 rfl (by decide) (W := 0) (Nat.le_refl _) (by decide) (by decide) (by decide) d1_35 rfl rfl (fun v285 T285 L285 X285 hQ285 => ?_)
          obtain ⟨rfl, rfl, e285⟩ := hQ285
          rw [own_lat hr4]
          show Ends p.tables e below _ (T285.setTop (mkF m 38 #[.val (.ref x0), .val (.int (4 : Int32))] [(.int y4)]))
          refine own_static X285 hx hby hZ (argsL := [(.int y4)]) (rest := []) hown (hw _ tw_79) (hw _ tw_80) (hw _ tw_12) (hw _ tw_81) (by decide) (rm17 l Z a0 hw y4 h0) e285 (by rw [hml]; rfl) pd_0 rfl (by decide) (W := 0) (Nat.le_refl _) (by decide) (by decide) (by decide) d1_38 rfl rfl (fun v286 T286 L286 X286 hQ286 => ?_)
          obtain ⟨rfl, rfl, e286⟩ := hQ286
          show Ends p.tables e below _ (T286.setTop (mkF m 41 #[.val (.ref x0), .val (.int (4 : Int32))] [(.int (own_ok y4))]))
          refine own_if_ne X286 hx hby d1_41 (pcY := 46) (pcN := 44) (by decide) rfl (fun (hc287 : ¬ (own_ok y4) = (0 : Int32)) => ?_) (fun (hc287 : (own_ok y4) = (0 : Int32)) => ?_)
          · -- pc 41: t
            refine own_iinc X286 hx hby d1_46 rfl (1 : Int32) rfl #[.val (.ref x0), .val (.int (5 : Int32))] rfl rfl ?_
            refine own_goto X286 hx hby d1_49 (pc' := 25) (by decide) ?_
            refine own_iloadN X286 hx hby d1_25 rfl rfl ?_
            refine own_aloadN X286 hx hby d1_26 rfl rfl rfl ?_
            refine own_virtual X286 hx hby hZ (Cn := "java/lang/String") (a := x0) (argsL := []) (rest := [(.int (5 : Int32))]) hown (hw _ tw_47) (hw _ tw_48) (hw _ tw_50) (hw _ tw_49) (hw _ tw_3) (hw _ tw_51) (by decide) (rmlength0 l Z a0 hw x0 h0 G O E Fc Fv Vb) E e286 (by rw [hml]; rfl) pd_8 rfl (by decide) (W := 1) (Nat.le_refl _) (by decide) (by decide) (by decide) d1_27 rfl rfl (fun v288 T288 L288 X288 hQ288 => ?_)
            obtain ⟨rfl, rfl, e288⟩ := hQ288
            show Ends p.tables e below _ (T288.setTop (mkF m 30 #[.val (.ref x0), .val (.int (5 : Int32))] [(.int ((5 : Int32) >>> ((0 : Int32) &&& 31))), (.int (5 : Int32))]))
            show Ends p.tables e below _ (T288.setTop (mkF m 30 #[.val (.ref x0), .val (.int (5 : Int32))] [(.int (5 : Int32)), (.int (5 : Int32))]))
            refine own_icmp_ge X288 hx hby d1_30 (pcY := 52) (pcN := 33) (by decide) rfl (fun (hc289 : 5 ≤ 5) => ?_) (fun (hc289 : 5 < 5) => False.elim (by exact absurd hc289 (by decide)))
            refine own_iconst X288 hx hby d1_52 rfl (1 : Int32) rfl ?_
            refine own_ret X288 hx hby hret hlk d1_53 (.int (1 : Int32)) rfl (Or.inl ⟨rfl, by simp, _, rfl⟩) (by decide) (by decide) ?_
            exact ⟨congrArg (fun z => some (Value.int z)) (by rw [own_all1 hc267, own_all1 hc272, own_all1 hc277, own_all1 hc282, own_all1 hc287]; rfl), rfl, e288⟩
          · -- pc 41: f
            refine own_iconst X286 hx hby d1_44 rfl (0 : Int32) rfl ?_
            refine own_ret X286 hx hby hret hlk d1_45 (.int (0 : Int32)) rfl (Or.inl ⟨rfl, by simp, _, rfl⟩) (by decide) (by decide) ?_
            exact ⟨congrArg (fun z => some (Value.int z)) (by rw [own_all1 hc267, own_all1 hc272, own_all1 hc277, own_all1 hc282, own_all0 hc287]), rfl, e286⟩
        · -- pc 41: f
          refine own_iconst X281 hx hby d1_44 rfl (0 : Int32) rfl ?_
          refine own_ret X281 hx hby hret hlk d1_45 (.int (0 : Int32)) rfl (Or.inl ⟨rfl, by simp, _, rfl⟩) (by decide) (by decide) ?_
          exact ⟨congrArg (fun z => some (Value.int z)) (by rw [own_all1 hc267, own_all1 hc272, own_all1 hc277, own_all0 hc282]), rfl, e281⟩
      · -- pc 41: f
        refine own_iconst X276 hx hby d1_44 rfl (0 : Int32) rfl ?_
        refine own_ret X276 hx hby hret hlk d1_45 (.int (0 : Int32)) rfl (Or.inl ⟨rfl, by simp, _, rfl⟩) (by decide) (by decide) ?_
        exact ⟨congrArg (fun z => some (Value.int z)) (by rw [own_all1 hc267, own_all1 hc272, own_all0 hc277]), rfl, e276⟩
    · -- pc 41: f
      refine own_iconst X271 hx hby d1_44 rfl (0 : Int32) rfl ?_
      refine own_ret X271 hx hby hret hlk d1_45 (.int (0 : Int32)) rfl (Or.inl ⟨rfl, by simp, _, rfl⟩) (by decide) (by decide) ?_
      exact ⟨congrArg (fun z => some (Value.int z)) (by rw [own_all1 hc267, own_all0 hc272]), rfl, e271⟩
  · -- pc 41: f
    refine own_iconst X266 hx hby d1_44 rfl (0 : Int32) rfl ?_
    refine own_ret X266 hx hby hret hlk d1_45 (.int (0 : Int32)) rfl (Or.inl ⟨rfl, by simp, _, rfl⟩) (by decide) (by decide) ?_
    exact ⟨congrArg (fun z => some (Value.int z)) (by rw [own_all0 hc267]), rfl, e266⟩
set_option maxRecDepth 65536 in
set_option maxHeartbeats 40000000 in
theorem rmv1_5 (l : Launch) (Z : State) (a0 : Array Value) (hw : ∀ d ∈ tables_1, d.before a0 Z = true) (x0 : Addr) (h0 : Heap) {ks : Int32} {fm : Value} (G : OwnGl Z ks fm) (O : Ext Z.heap h0) {y0 y1 y2 y3 y4 : Int32} (hr0 : 0 ≤ y0.toInt ∧ y0.toInt < 65536) (hr1 : 0 ≤ y1.toInt ∧ y1.toInt < 65536) (hr2 : 0 ≤ y2.toInt ∧ y2.toInt < 65536) (hr3 : 0 ≤ y3.toInt ∧ y3.toInt < 65536) (hr4 : 0 ≤ y4.toInt ∧ y4.toInt < 65536) {b1 : Addr} {k1 : ClassId} (E : Exa Z h0 x0 "java/lang/String") (Fc : Fld Z h0 x0 "java/lang/String" "coder" "B" (.int (1 : Int32))) (Fv : Fld Z h0 x0 "java/lang/String" "value" "[B" (.ref b1)) (Vb : Arv Z h0 b1 k1 .byte (10 : Int32) [.int (y0 >>> ((0 : Int32) &&& 31)).toInt8.toInt32, .int (y0 >>> ((8 : Int32) &&& 31)).toInt8.toInt32, .int (y1 >>> ((0 : Int32) &&& 31)).toInt8.toInt32, .int (y1 >>> ((8 : Int32) &&& 31)).toInt8.toInt32, .int (y2 >>> ((0 : Int32) &&& 31)).toInt8.toInt32, .int (y2 >>> ((8 : Int32) &&& 31)).toInt8.toInt32, .int (y3 >>> ((0 : Int32) &&& 31)).toInt8.toInt32, .int (y3 >>> ((8 : Int32) &&& 31)).toInt8.toInt32, .int (y4 >>> ((0 : Int32) &&& 31)).toInt8.toInt32, .int (y4 >>> ((8 : Int32) &&& 31)).toInt8.toInt32] (.int 0)) :
    OwnMet l Z (⟨"com/example/uni_errors/unierrors/CorrelationHeaders", "isValidId", "(Ljava/lang/String;)Z"⟩ : MethodName) prog_5_method_6_code 2 (some .boolean) [] ({ frames := 5, cells := 0, slots := 0, locals := 68 } : Room) #[(.ref x0)] h0 (fun v h L => v = some (.int (own_all [y0, y1, y2, y3, y4])) ∧ L = [] ∧ h = h0) := by
  refine own_body (plainFor_of_name pn_1) (fun m => ef_v1_5 m x0) ?_
  intro p e s m below meth c s₁ X0 hx hby hml hown hnm hret hlk hZ e0
  replace hown : s.vm.findClass "com/example/uni_errors/unierrors/CorrelationHeaders" = some m.cls := hown
  replace hml : c.maxLocals = 2 := hml
  show Ends p.tables e below _ (s₁.setTop (mkF m 0 #[.val (.ref x0), .unset] []))
  have i0 : (0 : Int32).toInt = 0 := rfl
  have i128 : (128 : Int32).toInt = 128 := rfl
  show Ends p.tables e below _ (s₁.setTop (mkF m 0 #[.val (.ref x0), .unset] []))
  refine own_aloadN X0 hx hby d1_0 rfl rfl rfl ?_
  refine own_ifnullNo X0 hx hby d1_1 rfl ?_
  refine own_aloadN X0 hx hby d1_4 rfl rfl rfl ?_
  refine own_virtual X0 hx hby hZ (Cn := "java/lang/String") (a := x0) (argsL := []) (rest := []) hown (hw _ tw_14) (hw _ tw_15) (hw _ tw_17) (hw _ tw_16) (hw _ tw_3) (hw _ tw_18) (by decide) (rmise1 l Z a0 hw x0 h0 G O E Fc Fv Vb (by decide)) E e0 (by rw [hml]; rfl) pd_7 rfl (by decide) (W := 0) (Nat.le_refl _) (by decide) (by decide) (by decide) d1_5 rfl rfl (fun v290 T290 L290 X290 hQ290 => ?_)
  obtain ⟨rfl, rfl, e290⟩ := hQ290
  show Ends p.tables e below _ (T290.setTop (mkF m 8 #[.val (.ref x0), .unset] [(.int (0 : Int32))]))
  refine own_if_ne X290 hx hby d1_8 (pcY := 21) (pcN := 11) (by decide) rfl (fun (hc291 : ¬ (0 : Int32) = (0 : Int32)) => False.elim (by exact absurd hc291 (by decide))) (fun (hc291 : (0 : Int32) = (0 : Int32)) => ?_)
  refine own_aloadN X290 hx hby d1_11 rfl rfl rfl ?_
  refine own_virtual X290 hx hby hZ (Cn := "java/lang/String") (a := x0) (argsL := []) (rest := []) hown (hw _ tw_47) (hw _ tw_48) (hw _ tw_50) (hw _ tw_49) (hw _ tw_3) (hw _ tw_51) (by decide) (rmlength1 l Z a0 hw x0 h0 G O E Fc Fv Vb) E e290 (by rw [hml]; rfl) pd_8 rfl (by decide) (W := 0) (Nat.le_refl _) (by decide) (by decide) (by decide) d1_12 rfl rfl (fun v292 T292 L292 X292 hQ292 => ?_)
  obtain ⟨rfl, rfl, e292⟩ := hQ292
  show Ends p.tables e below _ (T292.setTop (mkF m 15 #[.val (.ref x0), .unset] [(.int ((10 : Int32) >>> ((1 : Int32) &&& 31)))]))
  show Ends p.tables e below _ (T292.setTop (mkF m 15 #[.val (.ref x0), .unset] [(.int (5 : Int32))]))
  refine own_sipush X292 hx hby d1_15 rfl (128 : Int32) rfl ?_
  refine own_icmp_le X292 hx hby d1_18 (pcY := 23) (pcN := 21) (by decide) rfl (fun (hc293 : 5 ≤ 128) => ?_) (fun (hc293 : 128 < 5) => False.elim (by exact absurd hc293 (by decide)))
  refine own_iconst X292 hx hby d1_23 rfl (0 : Int32) rfl ?_
  refine own_istoreN X292 hx hby d1_24 rfl #[.val (.ref x0), .val (.int (0 : Int32))] rfl ?_
  refine own_iloadN X292 hx hby d1_25 rfl rfl ?_
  refine own_aloadN X292 hx hby d1_26 rfl rfl rfl ?_
  refine own_virtual X292 hx hby hZ (Cn := "java/lang/String") (a := x0) (argsL := []) (rest := [(.int (0 : Int32))]) hown (hw _ tw_47) (hw _ tw_48) (hw _ tw_50) (hw _ tw_49) (hw _ tw_3) (hw _ tw_51) (by decide) (rmlength1 l Z a0 hw x0 h0 G O E Fc Fv Vb) E e292 (by rw [hml]; rfl) pd_8 rfl (by decide) (W := 1) (Nat.le_refl _) (by decide) (by decide) (by decide) d1_27 rfl rfl (fun v294 T294 L294 X294 hQ294 => ?_)
  obtain ⟨rfl, rfl, e294⟩ := hQ294
  show Ends p.tables e below _ (T294.setTop (mkF m 30 #[.val (.ref x0), .val (.int (0 : Int32))] [(.int ((10 : Int32) >>> ((1 : Int32) &&& 31))), (.int (0 : Int32))]))
  show Ends p.tables e below _ (T294.setTop (mkF m 30 #[.val (.ref x0), .val (.int (0 : Int32))] [(.int (5 : Int32)), (.int (0 : Int32))]))
  refine own_icmp_ge X294 hx hby d1_30 (pcY := 52) (pcN := 33) (by decide) rfl (fun (hc295 : 5 ≤ 0) => False.elim (by exact absurd hc295 (by decide))) (fun (hc295 : 0 < 5) => ?_)
  refine own_aloadN X294 hx hby d1_33 rfl rfl rfl ?_
  refine own_iloadN X294 hx hby d1_34 rfl rfl ?_
  refine own_virtual X294 hx hby hZ (Cn := "java/lang/String") (a := x0) (argsL := [(.int (0 : Int32))]) (rest := []) hown (hw _ tw_57) (hw _ tw_58) (hw _ tw_60) (hw _ tw_59) (hw _ tw_3) (hw _ tw_61) (by decide) (rmcha1 l Z a0 hw x0 (0 : Int32) h0 G O E Fc Fv Vb (by decide) (by decide) (by decide) (by decide) rfl rfl (own_utf hr0) hr0) E e294 (by rw [hml]; rfl) pd_9 rfl (by decide) (W := 0) (Nat.le_refl _) (by decide) (by decide) (by decide) d1_35 rfl rfl (fun v296 T296 L296 X296 hQ296 => ?_)
  obtain ⟨rfl, rfl, e296⟩ := hQ296
  show Ends p.tables e below _ (T296.setTop (mkF m 38 #[.val (.ref x0), .val (.int (0 : Int32))] [(.int y0)]))
  refine own_static X296 hx hby hZ (argsL := [(.int y0)]) (rest := []) hown (hw _ tw_79) (hw _ tw_80) (hw _ tw_12) (hw _ tw_81) (by decide) (rm17 l Z a0 hw y0 h0) e296 (by rw [hml]; rfl) pd_0 rfl (by decide) (W := 0) (Nat.le_refl _) (by decide) (by decide) (by decide) d1_38 rfl rfl (fun v297 T297 L297 X297 hQ297 => ?_)
  obtain ⟨rfl, rfl, e297⟩ := hQ297
  show Ends p.tables e below _ (T297.setTop (mkF m 41 #[.val (.ref x0), .val (.int (0 : Int32))] [(.int (own_ok y0))]))
  refine own_if_ne X297 hx hby d1_41 (pcY := 46) (pcN := 44) (by decide) rfl (fun (hc298 : ¬ (own_ok y0) = (0 : Int32)) => ?_) (fun (hc298 : (own_ok y0) = (0 : Int32)) => ?_)
  · -- pc 41: t
    refine own_iinc X297 hx hby d1_46 rfl (1 : Int32) rfl #[.val (.ref x0), .val (.int (1 : Int32))] rfl rfl ?_
    refine own_goto X297 hx hby d1_49 (pc' := 25) (by decide) ?_
    refine own_iloadN X297 hx hby d1_25 rfl rfl ?_
    refine own_aloadN X297 hx hby d1_26 rfl rfl rfl ?_
    refine own_virtual X297 hx hby hZ (Cn := "java/lang/String") (a := x0) (argsL := []) (rest := [(.int (1 : Int32))]) hown (hw _ tw_47) (hw _ tw_48) (hw _ tw_50) (hw _ tw_49) (hw _ tw_3) (hw _ tw_51) (by decide) (rmlength1 l Z a0 hw x0 h0 G O E Fc Fv Vb) E e297 (by rw [hml]; rfl) pd_8 rfl (by decide) (W := 1) (Nat.le_refl _) (by decide) (by decide) (by decide) d1_27 rfl rfl (fun v299 T299 L299 X299 hQ299 => ?_)
    obtain ⟨rfl, rfl, e299⟩ := hQ299
    show Ends p.tables e below _ (T299.setTop (mkF m 30 #[.val (.ref x0), .val (.int (1 : Int32))] [(.int ((10 : Int32) >>> ((1 : Int32) &&& 31))), (.int (1 : Int32))]))
    show Ends p.tables e below _ (T299.setTop (mkF m 30 #[.val (.ref x0), .val (.int (1 : Int32))] [(.int (5 : Int32)), (.int (1 : Int32))]))
    refine own_icmp_ge X299 hx hby d1_30 (pcY := 52) (pcN := 33) (by decide) rfl (fun (hc300 : 5 ≤ 1) => False.elim (by exact absurd hc300 (by decide))) (fun (hc300 : 1 < 5) => ?_)
    refine own_aloadN X299 hx hby d1_33 rfl rfl rfl ?_
    refine own_iloadN X299 hx hby d1_34 rfl rfl ?_
    refine own_virtual X299 hx hby hZ (Cn := "java/lang/String") (a := x0) (argsL := [(.int (1 : Int32))]) (rest := []) hown (hw _ tw_57) (hw _ tw_58) (hw _ tw_60) (hw _ tw_59) (hw _ tw_3) (hw _ tw_61) (by decide) (rmcha1 l Z a0 hw x0 (1 : Int32) h0 G O E Fc Fv Vb (by decide) (by decide) (by decide) (by decide) rfl rfl (own_utf hr1) hr1) E e299 (by rw [hml]; rfl) pd_9 rfl (by decide) (W := 0) (Nat.le_refl _) (by decide) (by decide) (by decide) d1_35 rfl rfl (fun v301 T301 L301 X301 hQ301 => ?_)
    obtain ⟨rfl, rfl, e301⟩ := hQ301
    show Ends p.tables e below _ (T301.setTop (mkF m 38 #[.val (.ref x0), .val (.int (1 : Int32))] [(.int y1)]))
    refine own_static X301 hx hby hZ (argsL := [(.int y1)]) (rest := []) hown (hw _ tw_79) (hw _ tw_80) (hw _ tw_12) (hw _ tw_81) (by decide) (rm17 l Z a0 hw y1 h0) e301 (by rw [hml]; rfl) pd_0 rfl (by decide) (W := 0) (Nat.le_refl _) (by decide) (by decide) (by decide) d1_38 rfl rfl (fun v302 T302 L302 X302 hQ302 => ?_)
    obtain ⟨rfl, rfl, e302⟩ := hQ302
    show Ends p.tables e below _ (T302.setTop (mkF m 41 #[.val (.ref x0), .val (.int (1 : Int32))] [(.int (own_ok y1))]))
    refine own_if_ne X302 hx hby d1_41 (pcY := 46) (pcN := 44) (by decide) rfl (fun (hc303 : ¬ (own_ok y1) = (0 : Int32)) => ?_) (fun (hc303 : (own_ok y1) = (0 : Int32)) => ?_)
    · -- pc 41: t
      refine own_iinc X302 hx hby d1_46 rfl (1 : Int32) rfl #[.val (.ref x0), .val (.int (2 : Int32))] rfl rfl ?_
      refine own_goto X302 hx hby d1_49 (pc' := 25) (by decide) ?_
      refine own_iloadN X302 hx hby d1_25 rfl rfl ?_
      refine own_aloadN X302 hx hby d1_26 rfl rfl rfl ?_
      refine own_virtual X302 hx hby hZ (Cn := "java/lang/String") (a := x0) (argsL := []) (rest := [(.int (2 : Int32))]) hown (hw _ tw_47) (hw _ tw_48) (hw _ tw_50) (hw _ tw_49) (hw _ tw_3) (hw _ tw_51) (by decide) (rmlength1 l Z a0 hw x0 h0 G O E Fc Fv Vb) E e302 (by rw [hml]; rfl) pd_8 rfl (by decide) (W := 1) (Nat.le_refl _) (by decide) (by decide) (by decide) d1_27 rfl rfl (fun v304 T304 L304 X304 hQ304 => ?_)
      obtain ⟨rfl, rfl, e304⟩ := hQ304
      show Ends p.tables e below _ (T304.setTop (mkF m 30 #[.val (.ref x0), .val (.int (2 : Int32))] [(.int ((10 : Int32) >>> ((1 : Int32) &&& 31))), (.int (2 : Int32))]))
      show Ends p.tables e below _ (T304.setTop (mkF m 30 #[.val (.ref x0), .val (.int (2 : Int32))] [(.int (5 : Int32)), (.int (2 : Int32))]))
      refine own_icmp_ge X304 hx hby d1_30 (pcY := 52) (pcN := 33) (by decide) rfl (fun (hc305 : 5 ≤ 2) => False.elim (by exact absurd hc305 (by decide))) (fun (hc305 : 2 < 5) => ?_)
      refine own_aloadN X304 hx hby d1_33 rfl rfl rfl ?_
      refine own_iloadN X304 hx hby d1_34 rfl rfl ?_
      refine own_virtual X304 hx hby hZ (Cn := "java/lang/String") (a := x0) (argsL := [(.int (2 : Int32))]) (rest := []) hown (hw _ tw_57) (hw _ tw_58) (hw _ tw_60) (hw _ tw_59) (hw _ tw_3) (hw _ tw_61) (by decide) (rmcha1 l Z a0 hw x0 (2 : Int32) h0 G O E Fc Fv Vb (by decide) (by decide) (by decide) (by decide) rfl rfl (own_utf hr2) hr2) E e304 (by rw [hml]; rfl) pd_9 rfl (by decide) (W := 0) (Nat.le_refl _) (by decide) (by decide) (by decide) d1_35 rfl rfl (fun v306 T306 L306 X306 hQ306 => ?_)
      obtain ⟨rfl, rfl, e306⟩ := hQ306
      show Ends p.tables e below _ (T306.setTop (mkF m 38 #[.val (.ref x0), .val (.int (2 : Int32))] [(.int y2)]))
      refine own_static X306 hx hby hZ (argsL := [(.int y2)]) (rest := []) hown (hw _ tw_79) (hw _ tw_80) (hw _ tw_12) (hw _ tw_81) (by decide) (rm17 l Z a0 hw y2 h0) e306 (by rw [hml]; rfl) pd_0 rfl (by decide) (W := 0) (Nat.le_refl _) (by decide) (by decide) (by decide) d1_38 rfl rfl (fun v307 T307 L307 X307 hQ307 => ?_)
      obtain ⟨rfl, rfl, e307⟩ := hQ307
      show Ends p.tables e below _ (T307.setTop (mkF m 41 #[.val (.ref x0), .val (.int (2 : Int32))] [(.int (own_ok y2))]))
      refine own_if_ne X307 hx hby d1_41 (pcY := 46) (pcN := 44) (by decide) rfl (fun (hc308 : ¬ (own_ok y2) = (0 : Int32)) => ?_) (fun (hc308 : (own_ok y2) = (0 : Int32)) => ?_)
      · -- pc 41: t
        refine own_iinc X307 hx hby d1_46 rfl (1 : Int32) rfl #[.val (.ref x0), .val (.int (3 : Int32))] rfl rfl ?_
        refine own_goto X307 hx hby d1_49 (pc' := 25) (by decide) ?_
        refine own_iloadN X307 hx hby d1_25 rfl rfl ?_
        refine own_aloadN X307 hx hby d1_26 rfl rfl rfl ?_
        refine own_virtual X307 hx hby hZ (Cn := "java/lang/String") (a := x0) (argsL := []) (rest := [(.int (3 : Int32))]) hown (hw _ tw_47) (hw _ tw_48) (hw _ tw_50) (hw _ tw_49) (hw _ tw_3) (hw _ tw_51) (by decide) (rmlength1 l Z a0 hw x0 h0 G O E Fc Fv Vb) E e307 (by rw [hml]; rfl) pd_8 rfl (by decide) (W := 1) (Nat.le_refl _) (by decide) (by decide) (by decide) d1_27 rfl rfl (fun v309 T309 L309 X309 hQ309 => ?_)
        obtain ⟨rfl, rfl, e309⟩ := hQ309
        show Ends p.tables e below _ (T309.setTop (mkF m 30 #[.val (.ref x0), .val (.int (3 : Int32))] [(.int ((10 : Int32) >>> ((1 : Int32) &&& 31))), (.int (3 : Int32))]))
        show Ends p.tables e below _ (T309.setTop (mkF m 30 #[.val (.ref x0), .val (.int (3 : Int32))] [(.int (5 : Int32)), (.int (3 : Int32))]))
        refine own_icmp_ge X309 hx hby d1_30 (pcY := 52) (pcN := 33) (by decide) rfl (fun (hc310 : 5 ≤ 3) => False.elim (by exact absurd hc310 (by decide))) (fun (hc310 : 3 < 5) => ?_)
        refine own_aloadN X309 hx hby d1_33 rfl rfl rfl ?_
        refine own_iloadN X309 hx hby d1_34 rfl rfl ?_
        refine own_virtual X309 hx hby hZ (Cn := "java/lang/String") (a := x0) (argsL := [(.int (3 : Int32))]) (rest := []) hown (hw _ tw_57) (hw _ tw_58) (hw _ tw_60) (hw _ tw_59) (hw _ tw_3) (hw _ tw_61) (by decide) (rmcha1 l Z a0 hw x0 (3 : Int32) h0 G O E Fc Fv Vb (by decide) (by decide) (by decide) (by decide) rfl rfl (own_utf hr3) hr3) E e309 (by rw [hml]; rfl) pd_9 rfl (by decide) (W := 0) (Nat.le_refl _) (by decide) (by decide) (by decide) d1_35 rfl rfl (fun v311 T311 L311 X311 hQ311 => ?_)
        obtain ⟨rfl, rfl, e311⟩ := hQ311
        show Ends p.tables e below _ (T311.setTop (mkF m 38 #[.val (.ref x0), .val (.int (3 : Int32))] [(.int y3)]))
        refine own_static X311 hx hby hZ (argsL := [(.int y3)]) (rest := []) hown (hw _ tw_79) (hw _ tw_80) (hw _ tw_12) (hw _ tw_81) (by decide) (rm17 l Z a0 hw y3 h0) e311 (by rw [hml]; rfl) pd_0 rfl (by decide) (W := 0) (Nat.le_refl _) (by decide) (by decide) (by decide) d1_38 rfl rfl (fun v312 T312 L312 X312 hQ312 => ?_)
        obtain ⟨rfl, rfl, e312⟩ := hQ312
        show Ends p.tables e below _ (T312.setTop (mkF m 41 #[.val (.ref x0), .val (.int (3 : Int32))] [(.int (own_ok y3))]))
        refine own_if_ne X312 hx hby d1_41 (pcY := 46) (pcN := 44) (by decide) rfl (fun (hc313 : ¬ (own_ok y3) = (0 : Int32)) => ?_) (fun (hc313 : (own_ok y3) = (0 : Int32)) => ?_)
        · -- pc 41: t
          refine own_iinc X312 hx hby d1_46 rfl (1 : Int32) rfl #[.val (.ref x0), .val (.int (4 : Int32))] rfl rfl ?_
          refine own_goto X312 hx hby d1_49 (pc' := 25) (by decide) ?_
          refine own_iloadN X312 hx hby d1_25 rfl rfl ?_
          refine own_aloadN X312 hx hby d1_26 rfl rfl rfl ?_
          refine own_virtual X312 hx hby hZ (Cn := "java/lang/String") (a := x0) (argsL := []) (rest := [(.int (4 : Int32))]) hown (hw _ tw_47) (hw _ tw_48) (hw _ tw_50) (hw _ tw_49) (hw _ tw_3) (hw _ tw_51) (by decide) (rmlength1 l Z a0 hw x0 h0 G O E Fc Fv Vb) E e312 (by rw [hml]; rfl) pd_8 rfl (by decide) (W := 1) (Nat.le_refl _) (by decide) (by decide) (by decide) d1_27 rfl rfl (fun v314 T314 L314 X314 hQ314 => ?_)
          obtain ⟨rfl, rfl, e314⟩ := hQ314
          show Ends p.tables e below _ (T314.setTop (mkF m 30 #[.val (.ref x0), .val (.int (4 : Int32))] [(.int ((10 : Int32) >>> ((1 : Int32) &&& 31))), (.int (4 : Int32))]))
          show Ends p.tables e below _ (T314.setTop (mkF m 30 #[.val (.ref x0), .val (.int (4 : Int32))] [(.int (5 : Int32)), (.int (4 : Int32))]))
          refine own_icmp_ge X314 hx hby d1_30 (pcY := 52) (pcN := 33) (by decide) rfl (fun (hc315 : 5 ≤ 4) => False.elim (by exact absurd hc315 (by decide))) (fun (hc315 : 4 < 5) => ?_)
          refine own_aloadN X314 hx hby d1_33 rfl rfl rfl ?_
          refine own_iloadN X314 hx hby d1_34 rfl rfl ?_
          refine own_virtual X314 hx hby hZ (Cn := "java/lang/String") (a := x0) (argsL := [(.int (4 : Int32))]) (rest := []) hown (hw _ tw_57) (hw _ tw_58) (hw _ tw_60) (hw _ tw_59) (hw _ tw_3) (hw _ tw_61) (by decide) (rmcha1 l Z a0 hw x0 (4 : Int32) h0 G O E Fc Fv Vb (by decide) (by decide) (by decide) (by decide) rfl rfl (own_utf hr4) hr4) E e314 (by rw [hml]; rfl) pd_9 rfl (by decide) (W := 0) (Nat.le_refl _) (by decide) (by decide) (by decide) d1_35 rfl rfl (fun v316 T316 L316 X316 hQ316 => ?_)
          obtain ⟨rfl, rfl, e316⟩ := hQ316
          show Ends p.tables e below _ (T316.setTop (mkF m 38 #[.val (.ref x0), .val (.int (4 : Int32))] [(.int y4)]))
          refine own_static X316 hx hby hZ (argsL := [(.int y4)]) (rest := []) hown (hw _ tw_79) (hw _ tw_80) (hw _ tw_12) (hw _ tw_81) (by decide) (rm17 l Z a0 hw y4 h0) e316 (by rw [hml]; rfl) pd_0 rfl (by decide) (W := 0) (Nat.le_refl _) (by decide) (by decide) (by decide) d1_38 rfl rfl (fun v317 T317 L317 X317 hQ317 => ?_)
          obtain ⟨rfl, rfl, e317⟩ := hQ317
          show Ends p.tables e below _ (T317.setTop (mkF m 41 #[.val (.ref x0), .val (.int (4 : Int32))] [(.int (own_ok y4))]))
          refine own_if_ne X317 hx hby d1_41 (pcY := 46) (pcN := 44) (by decide) rfl (fun (hc318 : ¬ (own_ok y4) = (0 : Int32)) => ?_) (fun (hc318 : (own_ok y4) = (0 : Int32)) => ?_)
          · -- pc 41: t
            refine own_iinc X317 hx hby d1_46 rfl (1 : Int32) rfl #[.val (.ref x0), .val (.int (5 : Int32))] rfl rfl ?_
            refine own_goto X317 hx hby d1_49 (pc' := 25) (by decide) ?_
            refine own_iloadN X317 hx hby d1_25 rfl rfl ?_
            refine own_aloadN X317 hx hby d1_26 rfl rfl rfl ?_
            refine own_virtual X317 hx hby hZ (Cn := "java/lang/String") (a := x0) (argsL := []) (rest := [(.int (5 : Int32))]) hown (hw _ tw_47) (hw _ tw_48) (hw _ tw_50) (hw _ tw_49) (hw _ tw_3) (hw _ tw_51) (by decide) (rmlength1 l Z a0 hw x0 h0 G O E Fc Fv Vb) E e317 (by rw [hml]; rfl) pd_8 rfl (by decide) (W := 1) (Nat.le_refl _) (by decide) (by decide) (by decide) d1_27 rfl rfl (fun v319 T319 L319 X319 hQ319 => ?_)
            obtain ⟨rfl, rfl, e319⟩ := hQ319
            show Ends p.tables e below _ (T319.setTop (mkF m 30 #[.val (.ref x0), .val (.int (5 : Int32))] [(.int ((10 : Int32) >>> ((1 : Int32) &&& 31))), (.int (5 : Int32))]))
            show Ends p.tables e below _ (T319.setTop (mkF m 30 #[.val (.ref x0), .val (.int (5 : Int32))] [(.int (5 : Int32)), (.int (5 : Int32))]))
            refine own_icmp_ge X319 hx hby d1_30 (pcY := 52) (pcN := 33) (by decide) rfl (fun (hc320 : 5 ≤ 5) => ?_) (fun (hc320 : 5 < 5) => False.elim (by exact absurd hc320 (by decide)))
            refine own_iconst X319 hx hby d1_52 rfl (1 : Int32) rfl ?_
            refine own_ret X319 hx hby hret hlk d1_53 (.int (1 : Int32)) rfl (Or.inl ⟨rfl, by simp, _, rfl⟩) (by decide) (by decide) ?_
            exact ⟨congrArg (fun z => some (Value.int z)) (by rw [own_all1 hc298, own_all1 hc303, own_all1 hc308, own_all1 hc313, own_all1 hc318]; rfl), rfl, e319⟩
          · -- pc 41: f
            refine own_iconst X317 hx hby d1_44 rfl (0 : Int32) rfl ?_
            refine own_ret X317 hx hby hret hlk d1_45 (.int (0 : Int32)) rfl (Or.inl ⟨rfl, by simp, _, rfl⟩) (by decide) (by decide) ?_
            exact ⟨congrArg (fun z => some (Value.int z)) (by rw [own_all1 hc298, own_all1 hc303, own_all1 hc308, own_all1 hc313, own_all0 hc318]), rfl, e317⟩
        · -- pc 41: f
          refine own_iconst X312 hx hby d1_44 rfl (0 : Int32) rfl ?_
          refine own_ret X312 hx hby hret hlk d1_45 (.int (0 : Int32)) rfl (Or.inl ⟨rfl, by simp, _, rfl⟩) (by decide) (by decide) ?_
          exact ⟨congrArg (fun z => some (Value.int z)) (by rw [own_all1 hc298, own_all1 hc303, own_all1 hc308, own_all0 hc313]), rfl, e312⟩
      · -- pc 41: f
        refine own_iconst X307 hx hby d1_44 rfl (0 : Int32) rfl ?_
        refine own_ret X307 hx hby hret hlk d1_45 (.int (0 : Int32)) rfl (Or.inl ⟨rfl, by simp, _, rfl⟩) (by decide) (by decide) ?_
        exact ⟨congrArg (fun z => some (Value.int z)) (by rw [own_all1 hc298, own_all1 hc303, own_all0 hc308]), rfl, e307⟩
    · -- pc 41: f
      refine own_iconst X302 hx hby d1_44 rfl (0 : Int32) rfl ?_
      refine own_ret X302 hx hby hret hlk d1_45 (.int (0 : Int32)) rfl (Or.inl ⟨rfl, by simp, _, rfl⟩) (by decide) (by decide) ?_
      exact ⟨congrArg (fun z => some (Value.int z)) (by rw [own_all1 hc298, own_all0 hc303]), rfl, e302⟩
  · -- pc 41: f
    refine own_iconst X297 hx hby d1_44 rfl (0 : Int32) rfl ?_
    refine own_ret X297 hx hby hret hlk d1_45 (.int (0 : Int32)) rfl (Or.inl ⟨rfl, by simp, _, rfl⟩) (by decide) (by decide) ?_
    exact ⟨congrArg (fun z => some (Value.int z)) (by rw [own_all0 hc298]), rfl, e297⟩
set_option maxRecDepth 65536 in
set_option maxHeartbeats 40000000 in
theorem rmvempty (l : Launch) (Z : State) (a0 : Array Value) (hw : ∀ d ∈ tables_1, d.before a0 Z = true) (x0 : Addr) (h0 : Heap) {ks : Int32} {fm : Value} (G : OwnGl Z ks fm) (O : Ext Z.heap h0) {b1 : Addr} {k1 : ClassId} (E : Exa Z h0 x0 "java/lang/String") (Fc : Fld Z h0 x0 "java/lang/String" "coder" "B" (.int (0 : Int32))) (Fv : Fld Z h0 x0 "java/lang/String" "value" "[B" (.ref b1)) (Vb : Arv Z h0 b1 k1 .byte (0 : Int32) [] (.int 0)) :
    OwnMet l Z (⟨"com/example/uni_errors/unierrors/CorrelationHeaders", "isValidId", "(Ljava/lang/String;)Z"⟩ : MethodName) prog_5_method_6_code 2 (some .boolean) [] ({ frames := 5, cells := 0, slots := 0, locals := 68 } : Room) #[(.ref x0)] h0 (fun v h L => v = some (.int 0) ∧ L = [] ∧ h = h0) := by
  refine own_body (plainFor_of_name pn_1) (fun m => ef_vempty m x0) ?_
  intro p e s m below meth c s₁ X0 hx hby hml hown hnm hret hlk hZ e0
  replace hown : s.vm.findClass "com/example/uni_errors/unierrors/CorrelationHeaders" = some m.cls := hown
  replace hml : c.maxLocals = 2 := hml
  show Ends p.tables e below _ (s₁.setTop (mkF m 0 #[.val (.ref x0), .unset] []))
  have i0 : (0 : Int32).toInt = 0 := rfl
  have i128 : (128 : Int32).toInt = 128 := rfl
  show Ends p.tables e below _ (s₁.setTop (mkF m 0 #[.val (.ref x0), .unset] []))
  refine own_aloadN X0 hx hby d1_0 rfl rfl rfl ?_
  refine own_ifnullNo X0 hx hby d1_1 rfl ?_
  refine own_aloadN X0 hx hby d1_4 rfl rfl rfl ?_
  refine own_virtual X0 hx hby hZ (Cn := "java/lang/String") (a := x0) (argsL := []) (rest := []) hown (hw _ tw_14) (hw _ tw_15) (hw _ tw_17) (hw _ tw_16) (hw _ tw_3) (hw _ tw_18) (by decide) (rmise0 l Z a0 hw x0 h0 G O E Fc Fv Vb (by decide)) E e0 (by rw [hml]; rfl) pd_7 rfl (by decide) (W := 0) (Nat.le_refl _) (by decide) (by decide) (by decide) d1_5 rfl rfl (fun v321 T321 L321 X321 hQ321 => ?_)
  obtain ⟨rfl, rfl, e321⟩ := hQ321
  show Ends p.tables e below _ (T321.setTop (mkF m 8 #[.val (.ref x0), .unset] [(.int (1 : Int32))]))
  refine own_if_ne X321 hx hby d1_8 (pcY := 21) (pcN := 11) (by decide) rfl (fun (hc322 : ¬ (1 : Int32) = (0 : Int32)) => ?_) (fun (hc322 : (1 : Int32) = (0 : Int32)) => False.elim (by exact absurd hc322 (by decide)))
  refine own_iconst X321 hx hby d1_21 rfl (0 : Int32) rfl ?_
  refine own_ret X321 hx hby hret hlk d1_22 (.int (0 : Int32)) rfl (Or.inl ⟨rfl, by simp, _, rfl⟩) (by decide) (by decide) ?_
  exact ⟨rfl, rfl, e321⟩
set_option maxRecDepth 65536 in
set_option maxHeartbeats 40000000 in
theorem rmv129 (l : Launch) (Z : State) (a0 : Array Value) (hw : ∀ d ∈ tables_1, d.before a0 Z = true) (x0 : Addr) (h0 : Heap) {ks : Int32} {fm : Value} (G : OwnGl Z ks fm) (O : Ext Z.heap h0) {b1 : Addr} {k1 : ClassId} (E : Exa Z h0 x0 "java/lang/String") (Fc : Fld Z h0 x0 "java/lang/String" "coder" "B" (.int (0 : Int32))) (Fv : Fld Z h0 x0 "java/lang/String" "value" "[B" (.ref b1)) (Vb : Arv Z h0 b1 k1 .byte (129 : Int32) own_v129 (.int 0)) :
    OwnMet l Z (⟨"com/example/uni_errors/unierrors/CorrelationHeaders", "isValidId", "(Ljava/lang/String;)Z"⟩ : MethodName) prog_5_method_6_code 2 (some .boolean) [] ({ frames := 5, cells := 0, slots := 0, locals := 68 } : Room) #[(.ref x0)] h0 (fun v h L => v = some (.int 0) ∧ L = [] ∧ h = h0) := by
  refine own_body (plainFor_of_name pn_1) (fun m => ef_v129 m x0) ?_
  intro p e s m below meth c s₁ X0 hx hby hml hown hnm hret hlk hZ e0
  replace hown : s.vm.findClass "com/example/uni_errors/unierrors/CorrelationHeaders" = some m.cls := hown
  replace hml : c.maxLocals = 2 := hml
  show Ends p.tables e below _ (s₁.setTop (mkF m 0 #[.val (.ref x0), .unset] []))
  have i0 : (0 : Int32).toInt = 0 := rfl
  have i128 : (128 : Int32).toInt = 128 := rfl
  show Ends p.tables e below _ (s₁.setTop (mkF m 0 #[.val (.ref x0), .unset] []))
  refine own_aloadN X0 hx hby d1_0 rfl rfl rfl ?_
  refine own_ifnullNo X0 hx hby d1_1 rfl ?_
  refine own_aloadN X0 hx hby d1_4 rfl rfl rfl ?_
  refine own_virtual X0 hx hby hZ (Cn := "java/lang/String") (a := x0) (argsL := []) (rest := []) hown (hw _ tw_14) (hw _ tw_15) (hw _ tw_17) (hw _ tw_16) (hw _ tw_3) (hw _ tw_18) (by decide) (rmise1 l Z a0 hw x0 h0 G O E Fc Fv Vb (by decide)) E e0 (by rw [hml]; rfl) pd_7 rfl (by decide) (W := 0) (Nat.le_refl _) (by decide) (by decide) (by decide) d1_5 rfl rfl (fun v323 T323 L323 X323 hQ323 => ?_)
  obtain ⟨rfl, rfl, e323⟩ := hQ323
  show Ends p.tables e below _ (T323.setTop (mkF m 8 #[.val (.ref x0), .unset] [(.int (0 : Int32))]))
  refine own_if_ne X323 hx hby d1_8 (pcY := 21) (pcN := 11) (by decide) rfl (fun (hc324 : ¬ (0 : Int32) = (0 : Int32)) => False.elim (by exact absurd hc324 (by decide))) (fun (hc324 : (0 : Int32) = (0 : Int32)) => ?_)
  refine own_aloadN X323 hx hby d1_11 rfl rfl rfl ?_
  refine own_virtual X323 hx hby hZ (Cn := "java/lang/String") (a := x0) (argsL := []) (rest := []) hown (hw _ tw_47) (hw _ tw_48) (hw _ tw_50) (hw _ tw_49) (hw _ tw_3) (hw _ tw_51) (by decide) (rmlength0 l Z a0 hw x0 h0 G O E Fc Fv Vb) E e323 (by rw [hml]; rfl) pd_8 rfl (by decide) (W := 0) (Nat.le_refl _) (by decide) (by decide) (by decide) d1_12 rfl rfl (fun v325 T325 L325 X325 hQ325 => ?_)
  obtain ⟨rfl, rfl, e325⟩ := hQ325
  show Ends p.tables e below _ (T325.setTop (mkF m 15 #[.val (.ref x0), .unset] [(.int ((129 : Int32) >>> ((0 : Int32) &&& 31)))]))
  show Ends p.tables e below _ (T325.setTop (mkF m 15 #[.val (.ref x0), .unset] [(.int (129 : Int32))]))
  refine own_sipush X325 hx hby d1_15 rfl (128 : Int32) rfl ?_
  refine own_icmp_le X325 hx hby d1_18 (pcY := 23) (pcN := 21) (by decide) rfl (fun (hc326 : 129 ≤ 128) => False.elim (by exact absurd hc326 (by decide))) (fun (hc326 : 128 < 129) => ?_)
  refine own_iconst X325 hx hby d1_21 rfl (0 : Int32) rfl ?_
  refine own_ret X325 hx hby hret hlk d1_22 (.int (0 : Int32)) rfl (Or.inl ⟨rfl, by simp, _, rfl⟩) (by decide) (by decide) ?_
  exact ⟨rfl, rfl, e325⟩
set_option maxRecDepth 65536 in
set_option maxHeartbeats 40000000 in
theorem loop128 {p : Program} {l : Launch} {e : Env} {s : State} {m : MethodId} {args : Array Value} {below : List Frame} {meth : Method} {c : Code} {Fz : Outcome → State → Prop} {Z : State} {a0 : Array Value} (hx : p.tables.exec = Jvm.exec) (hby : c.code = prog_5_method_6_code) (hml : c.maxLocals = 2) (hown : s.vm.findClass "com/example/uni_errors/unierrors/CorrelationHeaders" = some m.cls) (hZ : Z.Warmed39 s.vm) (hw : ∀ d ∈ tables_1, d.before a0 Z = true) {ks : Int32} {fm : Value} (G : OwnGl Z ks fm) {locs : List Loc} {h0 : Heap} {x0 : Addr} (O : Ext Z.heap h0) {b1 : Addr} {k1 : ClassId} (E : Exa Z h0 x0 "java/lang/String") (Fc : Fld Z h0 x0 "java/lang/String" "coder" "B" (.int (0 : Int32))) (Fv : Fld Z h0 x0 "java/lang/String" "value" "[B" (.ref b1)) (Vb : Arv Z h0 b1 k1 .byte (128 : Int32) own_v128 (.int 0)) :
    ∀ (f : Nat) (j : Int32), 0 ≤ j.toInt → j.toInt + f = 128 → ∀ T : State, Stand p l e ({ frames := 5, cells := 0, slots := 0, locals := 68 } : Room) s m args below meth c T locs 0 0 → T.heap = h0 → (∀ T', Stand p l e ({ frames := 5, cells := 0, slots := 0, locals := 68 } : Room) s m args below meth c T' locs 0 0 → T'.heap = h0 → Ends p.tables e below Fz (T'.setTop (mkF m 52 #[.val (.ref x0), .val (.int (128 : Int32))] []))) → Ends p.tables e below Fz (T.setTop (mkF m 25 #[.val (.ref x0), .val (.int j)] [])) := by
  intro f
  induction f with
  | zero =>
    intro j hj0 hj T X0 e0 kt
    have i0 : (0 : Int32).toInt = 0 := rfl
    have i128 : (128 : Int32).toInt = 128 := rfl
    refine own_iloadN X0 hx hby d1_25 rfl rfl ?_
    refine own_aloadN X0 hx hby d1_26 rfl rfl rfl ?_
    refine own_virtual X0 hx hby hZ (Cn := "java/lang/String") (a := x0) (argsL := []) (rest := [(.int j)]) hown (hw _ tw_47) (hw _ tw_48) (hw _ tw_50) (hw _ tw_49) (hw _ tw_3) (hw _ tw_51) (by decide) (rmlength0 l Z a0 hw x0 h0 G O E Fc Fv Vb) E e0 (by rw [hml]; rfl) pd_8 rfl (by decide) (W := 1) (Nat.le_refl _) (by decide) (by decide) (by decide) d1_27 rfl rfl (fun v332 T332 L332 X332 hQ332 => ?_)
    obtain ⟨rfl, rfl, e332⟩ := hQ332
    show Ends p.tables e below _ (T332.setTop (mkF m 30 #[.val (.ref x0), .val (.int j)] [(.int ((128 : Int32) >>> ((0 : Int32) &&& 31))), (.int j)]))
    show Ends p.tables e below _ (T332.setTop (mkF m 30 #[.val (.ref x0), .val (.int j)] [(.int (128 : Int32)), (.int j)]))
    refine own_icmp_ge X332 hx hby d1_30 (pcY := 52) (pcN := 33) (by decide) rfl (fun (hc333 : 128 ≤ j.toInt) => ?_) (fun (hc333 : j.toInt < 128) => False.elim (by omega))
    have q : j = (128 : Int32) := Int32.toInt_inj.mp (by omega)
    subst q
    exact kt _ (own_nil X332) e332
  | succ f ih =>
    intro j hj0 hj T X0 e0 kt
    have i0 : (0 : Int32).toInt = 0 := rfl
    have i128 : (128 : Int32).toInt = 128 := rfl
    refine own_iloadN X0 hx hby d1_25 rfl rfl ?_
    refine own_aloadN X0 hx hby d1_26 rfl rfl rfl ?_
    refine own_virtual X0 hx hby hZ (Cn := "java/lang/String") (a := x0) (argsL := []) (rest := [(.int j)]) hown (hw _ tw_47) (hw _ tw_48) (hw _ tw_50) (hw _ tw_49) (hw _ tw_3) (hw _ tw_51) (by decide) (rmlength0 l Z a0 hw x0 h0 G O E Fc Fv Vb) E e0 (by rw [hml]; rfl) pd_8 rfl (by decide) (W := 1) (Nat.le_refl _) (by decide) (by decide) (by decide) d1_27 rfl rfl (fun v327 T327 L327 X327 hQ327 => ?_)
    obtain ⟨rfl, rfl, e327⟩ := hQ327
    show Ends p.tables e below _ (T327.setTop (mkF m 30 #[.val (.ref x0), .val (.int j)] [(.int ((128 : Int32) >>> ((0 : Int32) &&& 31))), (.int j)]))
    show Ends p.tables e below _ (T327.setTop (mkF m 30 #[.val (.ref x0), .val (.int j)] [(.int (128 : Int32)), (.int j)]))
    refine own_icmp_ge X327 hx hby d1_30 (pcY := 52) (pcN := 33) (by decide) rfl (fun (hc328 : 128 ≤ j.toInt) => False.elim (by omega)) (fun (hc328 : j.toInt < 128) => ?_)
    refine own_aloadN X327 hx hby d1_33 rfl rfl rfl ?_
    refine own_iloadN X327 hx hby d1_34 rfl rfl ?_
    refine own_virtual X327 hx hby hZ (Cn := "java/lang/String") (a := x0) (argsL := [(.int j)]) (rest := []) hown (hw _ tw_57) (hw _ tw_58) (hw _ tw_60) (hw _ tw_59) (hw _ tw_3) (hw _ tw_61) (by decide) (rmcha0 l Z a0 hw x0 j h0 G O E Fc Fv Vb (own_zn hj0 (by omega)).1 hj0 (by omega)) E e327 (by rw [hml]; rfl) pd_9 rfl (by decide) (W := 0) (Nat.le_refl _) (by decide) (by decide) (by decide) d1_35 rfl rfl (fun v329 T329 L329 X329 hQ329 => ?_)
    obtain ⟨rfl, rfl, e329⟩ := hQ329
    show Ends p.tables e below _ (T329.setTop (mkF m 38 #[.val (.ref x0), .val (.int j)] [(.int (own_z j.toNatClampNeg &&& (255 : Int32)))]))
    refine own_static X329 hx hby hZ (argsL := [(.int (own_z j.toNatClampNeg &&& (255 : Int32)))]) (rest := []) hown (hw _ tw_79) (hw _ tw_80) (hw _ tw_12) (hw _ tw_81) (by decide) (rm17 l Z a0 hw (own_z j.toNatClampNeg &&& (255 : Int32)) h0) e329 (by rw [hml]; rfl) pd_0 rfl (by decide) (W := 0) (Nat.le_refl _) (by decide) (by decide) (by decide) d1_38 rfl rfl (fun v330 T330 L330 X330 hQ330 => ?_)
    obtain ⟨rfl, rfl, e330⟩ := hQ330
    show Ends p.tables e below _ (T330.setTop (mkF m 41 #[.val (.ref x0), .val (.int j)] [(.int (own_ok (own_z j.toNatClampNeg &&& (255 : Int32))))]))
    refine own_if_ne X330 hx hby d1_41 (pcY := 46) (pcN := 44) (by decide) rfl (fun (hc331 : ¬ (own_ok (own_z j.toNatClampNeg &&& (255 : Int32))) = (0 : Int32)) => ?_) (fun (hc331 : (own_ok (own_z j.toNatClampNeg &&& (255 : Int32))) = (0 : Int32)) => False.elim (by rw [(own_zn hj0 (by omega)).2] at hc331; exact absurd hc331 (by decide)))
    refine own_iinc X330 hx hby d1_46 rfl (1 : Int32) rfl #[.val (.ref x0), .val (.int (j + (1 : Int32)))] rfl rfl ?_
    refine own_goto X330 hx hby d1_49 (pc' := 25) (by decide) ?_
    have k1 := c_iadd j 1
    have i1 : (1 : Int32).toInt = 1 := rfl
    have r1 := rng32 (j + 1)
    exact ih (j + 1) (by omega) (by omega) _ (own_nil (own_nil (own_nil X330))) e330 kt
set_option maxRecDepth 65536 in
set_option maxHeartbeats 40000000 in
theorem rmv128 (l : Launch) (Z : State) (a0 : Array Value) (hw : ∀ d ∈ tables_1, d.before a0 Z = true) (x0 : Addr) (h0 : Heap) {ks : Int32} {fm : Value} (G : OwnGl Z ks fm) (O : Ext Z.heap h0) {b1 : Addr} {k1 : ClassId} (E : Exa Z h0 x0 "java/lang/String") (Fc : Fld Z h0 x0 "java/lang/String" "coder" "B" (.int (0 : Int32))) (Fv : Fld Z h0 x0 "java/lang/String" "value" "[B" (.ref b1)) (Vb : Arv Z h0 b1 k1 .byte (128 : Int32) own_v128 (.int 0)) :
    OwnMet l Z (⟨"com/example/uni_errors/unierrors/CorrelationHeaders", "isValidId", "(Ljava/lang/String;)Z"⟩ : MethodName) prog_5_method_6_code 2 (some .boolean) [] ({ frames := 5, cells := 0, slots := 0, locals := 68 } : Room) #[(.ref x0)] h0 (fun v h L => v = some (.int 1) ∧ L = [] ∧ h = h0) := by
  refine own_body (plainFor_of_name pn_1) (fun m => ef_v128 m x0) ?_
  intro p e s m below meth c s₁ X0 hx hby hml hown hnm hret hlk hZ e0
  replace hown : s.vm.findClass "com/example/uni_errors/unierrors/CorrelationHeaders" = some m.cls := hown
  replace hml : c.maxLocals = 2 := hml
  show Ends p.tables e below _ (s₁.setTop (mkF m 0 #[.val (.ref x0), .unset] []))
  have i0 : (0 : Int32).toInt = 0 := rfl
  have i128 : (128 : Int32).toInt = 128 := rfl
  show Ends p.tables e below _ (s₁.setTop (mkF m 0 #[.val (.ref x0), .unset] []))
  refine own_aloadN X0 hx hby d1_0 rfl rfl rfl ?_
  refine own_ifnullNo X0 hx hby d1_1 rfl ?_
  refine own_aloadN X0 hx hby d1_4 rfl rfl rfl ?_
  refine own_virtual X0 hx hby hZ (Cn := "java/lang/String") (a := x0) (argsL := []) (rest := []) hown (hw _ tw_14) (hw _ tw_15) (hw _ tw_17) (hw _ tw_16) (hw _ tw_3) (hw _ tw_18) (by decide) (rmise1 l Z a0 hw x0 h0 G O E Fc Fv Vb (by decide)) E e0 (by rw [hml]; rfl) pd_7 rfl (by decide) (W := 0) (Nat.le_refl _) (by decide) (by decide) (by decide) d1_5 rfl rfl (fun v334 T334 L334 X334 hQ334 => ?_)
  obtain ⟨rfl, rfl, e334⟩ := hQ334
  show Ends p.tables e below _ (T334.setTop (mkF m 8 #[.val (.ref x0), .unset] [(.int (0 : Int32))]))
  refine own_if_ne X334 hx hby d1_8 (pcY := 21) (pcN := 11) (by decide) rfl (fun (hc335 : ¬ (0 : Int32) = (0 : Int32)) => False.elim (by exact absurd hc335 (by decide))) (fun (hc335 : (0 : Int32) = (0 : Int32)) => ?_)
  refine own_aloadN X334 hx hby d1_11 rfl rfl rfl ?_
  refine own_virtual X334 hx hby hZ (Cn := "java/lang/String") (a := x0) (argsL := []) (rest := []) hown (hw _ tw_47) (hw _ tw_48) (hw _ tw_50) (hw _ tw_49) (hw _ tw_3) (hw _ tw_51) (by decide) (rmlength0 l Z a0 hw x0 h0 G O E Fc Fv Vb) E e334 (by rw [hml]; rfl) pd_8 rfl (by decide) (W := 0) (Nat.le_refl _) (by decide) (by decide) (by decide) d1_12 rfl rfl (fun v336 T336 L336 X336 hQ336 => ?_)
  obtain ⟨rfl, rfl, e336⟩ := hQ336
  show Ends p.tables e below _ (T336.setTop (mkF m 15 #[.val (.ref x0), .unset] [(.int ((128 : Int32) >>> ((0 : Int32) &&& 31)))]))
  show Ends p.tables e below _ (T336.setTop (mkF m 15 #[.val (.ref x0), .unset] [(.int (128 : Int32))]))
  refine own_sipush X336 hx hby d1_15 rfl (128 : Int32) rfl ?_
  refine own_icmp_le X336 hx hby d1_18 (pcY := 23) (pcN := 21) (by decide) rfl (fun (hc337 : 128 ≤ 128) => ?_) (fun (hc337 : 128 < 128) => False.elim (by exact absurd hc337 (by decide)))
  refine own_iconst X336 hx hby d1_23 rfl (0 : Int32) rfl ?_
  refine own_istoreN X336 hx hby d1_24 rfl #[.val (.ref x0), .val (.int (0 : Int32))] rfl ?_
  refine loop128 hx hby hml hown hZ hw G O E Fc Fv Vb 128 0 (by decide) (by decide) _ X336 e336 (fun T1 X1 e1 => ?_)
  show Ends p.tables e below _ (T1.setTop (mkF m 52 #[.val (.ref x0), .val (.int (128 : Int32))] []))
  refine own_iconst X1 hx hby d1_52 rfl (1 : Int32) rfl ?_
  refine own_ret X1 hx hby hret hlk d1_53 (.int (1 : Int32)) rfl (Or.inl ⟨rfl, by simp, _, rfl⟩) (by decide) (by decide) ?_
  exact ⟨rfl, rfl, e1⟩
set_option maxRecDepth 65536 in
set_option maxHeartbeats 40000000 in
theorem rmnbl_1 (l : Launch) (Z : State) (a0 : Array Value) (hw : ∀ d ∈ tables_1, d.before a0 Z = true)  (h0 : Heap) :
    OwnMet l Z (⟨"java/lang/StringUTF16", "newBytesLength", "(I)I"⟩ : MethodName) jdk_52_method_3_code 1 (some .int) [] ({ frames := 0, cells := 0, slots := 0, locals := 0 } : Room) #[(.int (1 : Int32))] h0 (fun v h L => v = some (.int (2 : Int32)) ∧ L = [] ∧ h = h0) := by
  refine own_body (plainFor_of_name pn_5) (fun m => ef_nbl_1 m ) ?_
  intro p e s m below meth c s₁ X0 hx hby hml hown hnm hret hlk hZ e0
  replace hown : s.vm.findClass "java/lang/StringUTF16" = some m.cls := hown
  replace hml : c.maxLocals = 1 := hml
  show Ends p.tables e below _ (s₁.setTop (mkF m 0 #[.val (.int (1 : Int32))] []))
  refine own_iloadN X0 hx hby d21_0 rfl rfl ?_
  refine own_if_ge X0 hx hby d21_1 (pcY := 12) (pcN := 4) (by decide) rfl (fun (hc338 : 0 ≤ 1) => ?_) (fun (hc338 : 1 < 0) => False.elim (by exact absurd hc338 (by decide)))
  refine own_iloadN X0 hx hby d21_12 rfl rfl ?_
  refine own_ldcI X0 hx hby hZ hown (hw _ tw_94) d21_13 rfl ?_
  refine own_icmp_lt X0 hx hby d21_15 (pcY := 55) (pcN := 18) (by decide) rfl (fun (hc339 : 1 < 1073741823) => ?_) (fun (hc339 : 1073741823 ≤ 1) => False.elim (by exact absurd hc339 (by decide)))
  refine own_iloadN X0 hx hby d21_55 rfl rfl ?_
  refine own_iconst X0 hx hby d21_56 rfl (1 : Int32) rfl ?_
  refine own_ishl X0 hx hby d21_57 rfl ?_
  refine own_ret X0 hx hby hret hlk d21_58 (.int (2 : Int32)) rfl (Or.inl ⟨rfl, by simp, _, rfl⟩) (by decide) (by decide) ?_
  exact ⟨rfl, rfl, e0⟩
set_option maxRecDepth 65536 in
set_option maxHeartbeats 40000000 in
theorem rmnbl_2 (l : Launch) (Z : State) (a0 : Array Value) (hw : ∀ d ∈ tables_1, d.before a0 Z = true)  (h0 : Heap) :
    OwnMet l Z (⟨"java/lang/StringUTF16", "newBytesLength", "(I)I"⟩ : MethodName) jdk_52_method_3_code 1 (some .int) [] ({ frames := 0, cells := 0, slots := 0, locals := 0 } : Room) #[(.int (2 : Int32))] h0 (fun v h L => v = some (.int (4 : Int32)) ∧ L = [] ∧ h = h0) := by
  refine own_body (plainFor_of_name pn_5) (fun m => ef_nbl_2 m ) ?_
  intro p e s m below meth c s₁ X0 hx hby hml hown hnm hret hlk hZ e0
  replace hown : s.vm.findClass "java/lang/StringUTF16" = some m.cls := hown
  replace hml : c.maxLocals = 1 := hml
  show Ends p.tables e below _ (s₁.setTop (mkF m 0 #[.val (.int (2 : Int32))] []))
  refine own_iloadN X0 hx hby d21_0 rfl rfl ?_
  refine own_if_ge X0 hx hby d21_1 (pcY := 12) (pcN := 4) (by decide) rfl (fun (hc340 : 0 ≤ 2) => ?_) (fun (hc340 : 2 < 0) => False.elim (by exact absurd hc340 (by decide)))
  refine own_iloadN X0 hx hby d21_12 rfl rfl ?_
  refine own_ldcI X0 hx hby hZ hown (hw _ tw_94) d21_13 rfl ?_
  refine own_icmp_lt X0 hx hby d21_15 (pcY := 55) (pcN := 18) (by decide) rfl (fun (hc341 : 2 < 1073741823) => ?_) (fun (hc341 : 1073741823 ≤ 2) => False.elim (by exact absurd hc341 (by decide)))
  refine own_iloadN X0 hx hby d21_55 rfl rfl ?_
  refine own_iconst X0 hx hby d21_56 rfl (1 : Int32) rfl ?_
  refine own_ishl X0 hx hby d21_57 rfl ?_
  refine own_ret X0 hx hby hret hlk d21_58 (.int (4 : Int32)) rfl (Or.inl ⟨rfl, by simp, _, rfl⟩) (by decide) (by decide) ?_
  exact ⟨rfl, rfl, e0⟩
set_option maxRecDepth 65536 in
set_option maxHeartbeats 40000000 in
theorem rmnbl_3 (l : Launch) (Z : State) (a0 : Array Value) (hw : ∀ d ∈ tables_1, d.before a0 Z = true)  (h0 : Heap) :
    OwnMet l Z (⟨"java/lang/StringUTF16", "newBytesLength", "(I)I"⟩ : MethodName) jdk_52_method_3_code 1 (some .int) [] ({ frames := 0, cells := 0, slots := 0, locals := 0 } : Room) #[(.int (3 : Int32))] h0 (fun v h L => v = some (.int (6 : Int32)) ∧ L = [] ∧ h = h0) := by
  refine own_body (plainFor_of_name pn_5) (fun m => ef_nbl_3 m ) ?_
  intro p e s m below meth c s₁ X0 hx hby hml hown hnm hret hlk hZ e0
  replace hown : s.vm.findClass "java/lang/StringUTF16" = some m.cls := hown
  replace hml : c.maxLocals = 1 := hml
  show Ends p.tables e below _ (s₁.setTop (mkF m 0 #[.val (.int (3 : Int32))] []))
  refine own_iloadN X0 hx hby d21_0 rfl rfl ?_
  refine own_if_ge X0 hx hby d21_1 (pcY := 12) (pcN := 4) (by decide) rfl (fun (hc342 : 0 ≤ 3) => ?_) (fun (hc342 : 3 < 0) => False.elim (by exact absurd hc342 (by decide)))
  refine own_iloadN X0 hx hby d21_12 rfl rfl ?_
  refine own_ldcI X0 hx hby hZ hown (hw _ tw_94) d21_13 rfl ?_
  refine own_icmp_lt X0 hx hby d21_15 (pcY := 55) (pcN := 18) (by decide) rfl (fun (hc343 : 3 < 1073741823) => ?_) (fun (hc343 : 1073741823 ≤ 3) => False.elim (by exact absurd hc343 (by decide)))
  refine own_iloadN X0 hx hby d21_55 rfl rfl ?_
  refine own_iconst X0 hx hby d21_56 rfl (1 : Int32) rfl ?_
  refine own_ishl X0 hx hby d21_57 rfl ?_
  refine own_ret X0 hx hby hret hlk d21_58 (.int (6 : Int32)) rfl (Or.inl ⟨rfl, by simp, _, rfl⟩) (by decide) (by decide) ?_
  exact ⟨rfl, rfl, e0⟩
set_option maxRecDepth 65536 in
set_option maxHeartbeats 40000000 in
theorem rmnbl_4 (l : Launch) (Z : State) (a0 : Array Value) (hw : ∀ d ∈ tables_1, d.before a0 Z = true)  (h0 : Heap) :
    OwnMet l Z (⟨"java/lang/StringUTF16", "newBytesLength", "(I)I"⟩ : MethodName) jdk_52_method_3_code 1 (some .int) [] ({ frames := 0, cells := 0, slots := 0, locals := 0 } : Room) #[(.int (4 : Int32))] h0 (fun v h L => v = some (.int (8 : Int32)) ∧ L = [] ∧ h = h0) := by
  refine own_body (plainFor_of_name pn_5) (fun m => ef_nbl_4 m ) ?_
  intro p e s m below meth c s₁ X0 hx hby hml hown hnm hret hlk hZ e0
  replace hown : s.vm.findClass "java/lang/StringUTF16" = some m.cls := hown
  replace hml : c.maxLocals = 1 := hml
  show Ends p.tables e below _ (s₁.setTop (mkF m 0 #[.val (.int (4 : Int32))] []))
  refine own_iloadN X0 hx hby d21_0 rfl rfl ?_
  refine own_if_ge X0 hx hby d21_1 (pcY := 12) (pcN := 4) (by decide) rfl (fun (hc344 : 0 ≤ 4) => ?_) (fun (hc344 : 4 < 0) => False.elim (by exact absurd hc344 (by decide)))
  refine own_iloadN X0 hx hby d21_12 rfl rfl ?_
  refine own_ldcI X0 hx hby hZ hown (hw _ tw_94) d21_13 rfl ?_
  refine own_icmp_lt X0 hx hby d21_15 (pcY := 55) (pcN := 18) (by decide) rfl (fun (hc345 : 4 < 1073741823) => ?_) (fun (hc345 : 1073741823 ≤ 4) => False.elim (by exact absurd hc345 (by decide)))
  refine own_iloadN X0 hx hby d21_55 rfl rfl ?_
  refine own_iconst X0 hx hby d21_56 rfl (1 : Int32) rfl ?_
  refine own_ishl X0 hx hby d21_57 rfl ?_
  refine own_ret X0 hx hby hret hlk d21_58 (.int (8 : Int32)) rfl (Or.inl ⟨rfl, by simp, _, rfl⟩) (by decide) (by decide) ?_
  exact ⟨rfl, rfl, e0⟩
set_option maxRecDepth 65536 in
set_option maxHeartbeats 40000000 in
theorem rmnbl_5 (l : Launch) (Z : State) (a0 : Array Value) (hw : ∀ d ∈ tables_1, d.before a0 Z = true)  (h0 : Heap) :
    OwnMet l Z (⟨"java/lang/StringUTF16", "newBytesLength", "(I)I"⟩ : MethodName) jdk_52_method_3_code 1 (some .int) [] ({ frames := 0, cells := 0, slots := 0, locals := 0 } : Room) #[(.int (5 : Int32))] h0 (fun v h L => v = some (.int (10 : Int32)) ∧ L = [] ∧ h = h0) := by
  refine own_body (plainFor_of_name pn_5) (fun m => ef_nbl_5 m ) ?_
  intro p e s m below meth c s₁ X0 hx hby hml hown hnm hret hlk hZ e0
  replace hown : s.vm.findClass "java/lang/StringUTF16" = some m.cls := hown
  replace hml : c.maxLocals = 1 := hml
  show Ends p.tables e below _ (s₁.setTop (mkF m 0 #[.val (.int (5 : Int32))] []))
  refine own_iloadN X0 hx hby d21_0 rfl rfl ?_
  refine own_if_ge X0 hx hby d21_1 (pcY := 12) (pcN := 4) (by decide) rfl (fun (hc346 : 0 ≤ 5) => ?_) (fun (hc346 : 5 < 0) => False.elim (by exact absurd hc346 (by decide)))
  refine own_iloadN X0 hx hby d21_12 rfl rfl ?_
  refine own_ldcI X0 hx hby hZ hown (hw _ tw_94) d21_13 rfl ?_
  refine own_icmp_lt X0 hx hby d21_15 (pcY := 55) (pcN := 18) (by decide) rfl (fun (hc347 : 5 < 1073741823) => ?_) (fun (hc347 : 1073741823 ≤ 5) => False.elim (by exact absurd hc347 (by decide)))
  refine own_iloadN X0 hx hby d21_55 rfl rfl ?_
  refine own_iconst X0 hx hby d21_56 rfl (1 : Int32) rfl ?_
  refine own_ishl X0 hx hby d21_57 rfl ?_
  refine own_ret X0 hx hby hret hlk d21_58 (.int (10 : Int32)) rfl (Or.inl ⟨rfl, by simp, _, rfl⟩) (by decide) (by decide) ?_
  exact ⟨rfl, rfl, e0⟩
set_option maxRecDepth 65536 in
set_option maxHeartbeats 40000000 in
theorem rmnbf_1 (l : Launch) (Z : State) (a0 : Array Value) (hw : ∀ d ∈ tables_1, d.before a0 Z = true)  (h0 : Heap) (n0 : Nat) (O : Old Z n0 h0) :
    OwnMet l Z (⟨"java/lang/StringUTF16", "newBytesFor", "(I)[B"⟩ : MethodName) jdk_52_method_2_code 1 (some (.array .byte)) [] ({ frames := 1, cells := 1, slots := 2, locals := 12 } : Room) #[(.int (1 : Int32))] h0 (fun v h L => ∃ b k, v = some (.ref b) ∧ Fr n0 L ∧ Keep h0 h [] ∧ h0.size ≤ b ∧ n0 ≤ b ∧ Arv Z h b k .byte (2 : Int32) [(.int (0 : Int32)), (.int (0 : Int32))] (.int 0)) := by
  refine own_body (plainFor_of_name pn_5) (fun m => ef_nbf_1 m ) ?_
  intro p e s m below meth c s₁ X0 hx hby hml hown hnm hret hlk hZ e0
  replace hown : s.vm.findClass "java/lang/StringUTF16" = some m.cls := hown
  replace hml : c.maxLocals = 1 := hml
  have N0 := Fr.nil n0
  show Ends p.tables e below _ (s₁.setTop (mkF m 0 #[.val (.int (1 : Int32))] []))
  refine own_iloadN X0 hx hby d20_0 rfl rfl ?_
  refine own_static X0 hx hby hZ (argsL := [(.int (1 : Int32))]) (rest := []) hown (hw _ tw_91) (hw _ tw_92) (hw _ tw_34) (hw _ tw_93) (by decide) (rmnbl_1 l Z a0 hw h0 ) e0 (by rw [hml]; rfl) pd_10 rfl (by decide) (W := 0) (Nat.le_refl _) (by decide) (by decide) (by decide) d20_1 rfl rfl (fun v348 T348 L348 X348 hQ348 => ?_)
  obtain ⟨rfl, rfl, e348⟩ := hQ348
  show Ends p.tables e below _ (T348.setTop (mkF m 4 #[.val (.int (1 : Int32))] [(.int (2 : Int32))]))
  refine own_newarray X348 hx hby hZ (aty := .byte) (hw _ tw_5) e348 (by decide) 2 (by decide) (by decide) (by decide) (by decide) .byte rfl [(.int (0 : Int32)), (.int (0 : Int32))] rfl d20_4 rfl (fun T349 h349 b349 k349 X349 e349 g349 E349 V349 => ?_)
  have ge_b349 : n0 ≤ b349 := own_ge O g349
  have sz_b349 : h0.size ≤ b349 := Nat.le_trans (Keep.refl h0 []).1 (Nat.le_of_eq g349.symm)
  refine own_ret X349 hx hby hret hlk d20_6 (.ref b349) rfl (Or.inr (Or.inr ⟨rfl, rfl, rfl⟩)) (by decide) (by decide) ?_
  have f350 := ((Keep.refl h0 []).ext E349)
  rw [e349]
  exact ⟨b349, _, rfl, (Fr.app N0 (Fr.nil _)), f350, sz_b349, ge_b349, V349⟩
set_option maxRecDepth 65536 in
set_option maxHeartbeats 40000000 in
theorem rmnbf_2 (l : Launch) (Z : State) (a0 : Array Value) (hw : ∀ d ∈ tables_1, d.before a0 Z = true)  (h0 : Heap) (n0 : Nat) (O : Old Z n0 h0) :
    OwnMet l Z (⟨"java/lang/StringUTF16", "newBytesFor", "(I)[B"⟩ : MethodName) jdk_52_method_2_code 1 (some (.array .byte)) [] ({ frames := 1, cells := 1, slots := 4, locals := 12 } : Room) #[(.int (2 : Int32))] h0 (fun v h L => ∃ b k, v = some (.ref b) ∧ Fr n0 L ∧ Keep h0 h [] ∧ h0.size ≤ b ∧ n0 ≤ b ∧ Arv Z h b k .byte (4 : Int32) [(.int (0 : Int32)), (.int (0 : Int32)), (.int (0 : Int32)), (.int (0 : Int32))] (.int 0)) := by
  refine own_body (plainFor_of_name pn_5) (fun m => ef_nbf_2 m ) ?_
  intro p e s m below meth c s₁ X0 hx hby hml hown hnm hret hlk hZ e0
  replace hown : s.vm.findClass "java/lang/StringUTF16" = some m.cls := hown
  replace hml : c.maxLocals = 1 := hml
  have N0 := Fr.nil n0
  show Ends p.tables e below _ (s₁.setTop (mkF m 0 #[.val (.int (2 : Int32))] []))
  refine own_iloadN X0 hx hby d20_0 rfl rfl ?_
  refine own_static X0 hx hby hZ (argsL := [(.int (2 : Int32))]) (rest := []) hown (hw _ tw_91) (hw _ tw_92) (hw _ tw_34) (hw _ tw_93) (by decide) (rmnbl_2 l Z a0 hw h0 ) e0 (by rw [hml]; rfl) pd_10 rfl (by decide) (W := 0) (Nat.le_refl _) (by decide) (by decide) (by decide) d20_1 rfl rfl (fun v351 T351 L351 X351 hQ351 => ?_)
  obtain ⟨rfl, rfl, e351⟩ := hQ351
  show Ends p.tables e below _ (T351.setTop (mkF m 4 #[.val (.int (2 : Int32))] [(.int (4 : Int32))]))
  refine own_newarray X351 hx hby hZ (aty := .byte) (hw _ tw_5) e351 (by decide) 4 (by decide) (by decide) (by decide) (by decide) .byte rfl [(.int (0 : Int32)), (.int (0 : Int32)), (.int (0 : Int32)), (.int (0 : Int32))] rfl d20_4 rfl (fun T352 h352 b352 k352 X352 e352 g352 E352 V352 => ?_)
  have ge_b352 : n0 ≤ b352 := own_ge O g352
  have sz_b352 : h0.size ≤ b352 := Nat.le_trans (Keep.refl h0 []).1 (Nat.le_of_eq g352.symm)
  refine own_ret X352 hx hby hret hlk d20_6 (.ref b352) rfl (Or.inr (Or.inr ⟨rfl, rfl, rfl⟩)) (by decide) (by decide) ?_
  have f353 := ((Keep.refl h0 []).ext E352)
  rw [e352]
  exact ⟨b352, _, rfl, (Fr.app N0 (Fr.nil _)), f353, sz_b352, ge_b352, V352⟩
set_option maxRecDepth 65536 in
set_option maxHeartbeats 40000000 in
theorem rmnbf_3 (l : Launch) (Z : State) (a0 : Array Value) (hw : ∀ d ∈ tables_1, d.before a0 Z = true)  (h0 : Heap) (n0 : Nat) (O : Old Z n0 h0) :
    OwnMet l Z (⟨"java/lang/StringUTF16", "newBytesFor", "(I)[B"⟩ : MethodName) jdk_52_method_2_code 1 (some (.array .byte)) [] ({ frames := 1, cells := 1, slots := 6, locals := 12 } : Room) #[(.int (3 : Int32))] h0 (fun v h L => ∃ b k, v = some (.ref b) ∧ Fr n0 L ∧ Keep h0 h [] ∧ h0.size ≤ b ∧ n0 ≤ b ∧ Arv Z h b k .byte (6 : Int32) [(.int (0 : Int32)), (.int (0 : Int32)), (.int (0 : Int32)), (.int (0 : Int32)), (.int (0 : Int32)), (.int (0 : Int32))] (.int 0)) := by
  refine own_body (plainFor_of_name pn_5) (fun m => ef_nbf_3 m ) ?_
  intro p e s m below meth c s₁ X0 hx hby hml hown hnm hret hlk hZ e0
  replace hown : s.vm.findClass "java/lang/StringUTF16" = some m.cls := hown
  replace hml : c.maxLocals = 1 := hml
  have N0 := Fr.nil n0
  show Ends p.tables e below _ (s₁.setTop (mkF m 0 #[.val (.int (3 : Int32))] []))
  refine own_iloadN X0 hx hby d20_0 rfl rfl ?_
  refine own_static X0 hx hby hZ (argsL := [(.int (3 : Int32))]) (rest := []) hown (hw _ tw_91) (hw _ tw_92) (hw _ tw_34) (hw _ tw_93) (by decide) (rmnbl_3 l Z a0 hw h0 ) e0 (by rw [hml]; rfl) pd_10 rfl (by decide) (W := 0) (Nat.le_refl _) (by decide) (by decide) (by decide) d20_1 rfl rfl (fun v354 T354 L354 X354 hQ354 => ?_)
  obtain ⟨rfl, rfl, e354⟩ := hQ354
  show Ends p.tables e below _ (T354.setTop (mkF m 4 #[.val (.int (3 : Int32))] [(.int (6 : Int32))]))
  refine own_newarray X354 hx hby hZ (aty := .byte) (hw _ tw_5) e354 (by decide) 6 (by decide) (by decide) (by decide) (by decide) .byte rfl [(.int (0 : Int32)), (.int (0 : Int32)), (.int (0 : Int32)), (.int (0 : Int32)), (.int (0 : Int32)), (.int (0 : Int32))] rfl d20_4 rfl (fun T355 h355 b355 k355 X355 e355 g355 E355 V355 => ?_)
  have ge_b355 : n0 ≤ b355 := own_ge O g355
  have sz_b355 : h0.size ≤ b355 := Nat.le_trans (Keep.refl h0 []).1 (Nat.le_of_eq g355.symm)
  refine own_ret X355 hx hby hret hlk d20_6 (.ref b355) rfl (Or.inr (Or.inr ⟨rfl, rfl, rfl⟩)) (by decide) (by decide) ?_
  have f356 := ((Keep.refl h0 []).ext E355)
  rw [e355]
  exact ⟨b355, _, rfl, (Fr.app N0 (Fr.nil _)), f356, sz_b355, ge_b355, V355⟩
set_option maxRecDepth 65536 in
set_option maxHeartbeats 40000000 in
theorem rmnbf_4 (l : Launch) (Z : State) (a0 : Array Value) (hw : ∀ d ∈ tables_1, d.before a0 Z = true)  (h0 : Heap) (n0 : Nat) (O : Old Z n0 h0) :
    OwnMet l Z (⟨"java/lang/StringUTF16", "newBytesFor", "(I)[B"⟩ : MethodName) jdk_52_method_2_code 1 (some (.array .byte)) [] ({ frames := 1, cells := 1, slots := 8, locals := 12 } : Room) #[(.int (4 : Int32))] h0 (fun v h L => ∃ b k, v = some (.ref b) ∧ Fr n0 L ∧ Keep h0 h [] ∧ h0.size ≤ b ∧ n0 ≤ b ∧ Arv Z h b k .byte (8 : Int32) [(.int (0 : Int32)), (.int (0 : Int32)), (.int (0 : Int32)), (.int (0 : Int32)), (.int (0 : Int32)), (.int (0 : Int32)), (.int (0 : Int32)), (.int (0 : Int32))] (.int 0)) := by
  refine own_body (plainFor_of_name pn_5) (fun m => ef_nbf_4 m ) ?_
  intro p e s m below meth c s₁ X0 hx hby hml hown hnm hret hlk hZ e0
  replace hown : s.vm.findClass "java/lang/StringUTF16" = some m.cls := hown
  replace hml : c.maxLocals = 1 := hml
  have N0 := Fr.nil n0
  show Ends p.tables e below _ (s₁.setTop (mkF m 0 #[.val (.int (4 : Int32))] []))
  refine own_iloadN X0 hx hby d20_0 rfl rfl ?_
  refine own_static X0 hx hby hZ (argsL := [(.int (4 : Int32))]) (rest := []) hown (hw _ tw_91) (hw _ tw_92) (hw _ tw_34) (hw _ tw_93) (by decide) (rmnbl_4 l Z a0 hw h0 ) e0 (by rw [hml]; rfl) pd_10 rfl (by decide) (W := 0) (Nat.le_refl _) (by decide) (by decide) (by decide) d20_1 rfl rfl (fun v357 T357 L357 X357 hQ357 => ?_)
  obtain ⟨rfl, rfl, e357⟩ := hQ357
  show Ends p.tables e below _ (T357.setTop (mkF m 4 #[.val (.int (4 : Int32))] [(.int (8 : Int32))]))
  refine own_newarray X357 hx hby hZ (aty := .byte) (hw _ tw_5) e357 (by decide) 8 (by decide) (by decide) (by decide) (by decide) .byte rfl [(.int (0 : Int32)), (.int (0 : Int32)), (.int (0 : Int32)), (.int (0 : Int32)), (.int (0 : Int32)), (.int (0 : Int32)), (.int (0 : Int32)), (.int (0 : Int32))] rfl d20_4 rfl (fun T358 h358 b358 k358 X358 e358 g358 E358 V358 => ?_)
  have ge_b358 : n0 ≤ b358 := own_ge O g358
  have sz_b358 : h0.size ≤ b358 := Nat.le_trans (Keep.refl h0 []).1 (Nat.le_of_eq g358.symm)
  refine own_ret X358 hx hby hret hlk d20_6 (.ref b358) rfl (Or.inr (Or.inr ⟨rfl, rfl, rfl⟩)) (by decide) (by decide) ?_
  have f359 := ((Keep.refl h0 []).ext E358)
  rw [e358]
  exact ⟨b358, _, rfl, (Fr.app N0 (Fr.nil _)), f359, sz_b358, ge_b358, V358⟩
set_option maxRecDepth 65536 in
set_option maxHeartbeats 40000000 in
theorem rmnbf_5 (l : Launch) (Z : State) (a0 : Array Value) (hw : ∀ d ∈ tables_1, d.before a0 Z = true)  (h0 : Heap) (n0 : Nat) (O : Old Z n0 h0) :
    OwnMet l Z (⟨"java/lang/StringUTF16", "newBytesFor", "(I)[B"⟩ : MethodName) jdk_52_method_2_code 1 (some (.array .byte)) [] ({ frames := 1, cells := 1, slots := 10, locals := 12 } : Room) #[(.int (5 : Int32))] h0 (fun v h L => ∃ b k, v = some (.ref b) ∧ Fr n0 L ∧ Keep h0 h [] ∧ h0.size ≤ b ∧ n0 ≤ b ∧ Arv Z h b k .byte (10 : Int32) [(.int (0 : Int32)), (.int (0 : Int32)), (.int (0 : Int32)), (.int (0 : Int32)), (.int (0 : Int32)), (.int (0 : Int32)), (.int (0 : Int32)), (.int (0 : Int32)), (.int (0 : Int32)), (.int (0 : Int32))] (.int 0)) := by
  refine own_body (plainFor_of_name pn_5) (fun m => ef_nbf_5 m ) ?_
  intro p e s m below meth c s₁ X0 hx hby hml hown hnm hret hlk hZ e0
  replace hown : s.vm.findClass "java/lang/StringUTF16" = some m.cls := hown
  replace hml : c.maxLocals = 1 := hml
  have N0 := Fr.nil n0
  show Ends p.tables e below _ (s₁.setTop (mkF m 0 #[.val (.int (5 : Int32))] []))
  refine own_iloadN X0 hx hby d20_0 rfl rfl ?_
  refine own_static X0 hx hby hZ (argsL := [(.int (5 : Int32))]) (rest := []) hown (hw _ tw_91) (hw _ tw_92) (hw _ tw_34) (hw _ tw_93) (by decide) (rmnbl_5 l Z a0 hw h0 ) e0 (by rw [hml]; rfl) pd_10 rfl (by decide) (W := 0) (Nat.le_refl _) (by decide) (by decide) (by decide) d20_1 rfl rfl (fun v360 T360 L360 X360 hQ360 => ?_)
  obtain ⟨rfl, rfl, e360⟩ := hQ360
  show Ends p.tables e below _ (T360.setTop (mkF m 4 #[.val (.int (5 : Int32))] [(.int (10 : Int32))]))
  refine own_newarray X360 hx hby hZ (aty := .byte) (hw _ tw_5) e360 (by decide) 10 (by decide) (by decide) (by decide) (by decide) .byte rfl [(.int (0 : Int32)), (.int (0 : Int32)), (.int (0 : Int32)), (.int (0 : Int32)), (.int (0 : Int32)), (.int (0 : Int32)), (.int (0 : Int32)), (.int (0 : Int32)), (.int (0 : Int32)), (.int (0 : Int32))] rfl d20_4 rfl (fun T361 h361 b361 k361 X361 e361 g361 E361 V361 => ?_)
  have ge_b361 : n0 ≤ b361 := own_ge O g361
  have sz_b361 : h0.size ≤ b361 := Nat.le_trans (Keep.refl h0 []).1 (Nat.le_of_eq g361.symm)
  refine own_ret X361 hx hby hret hlk d20_6 (.ref b361) rfl (Or.inr (Or.inr ⟨rfl, rfl, rfl⟩)) (by decide) (by decide) ?_
  have f362 := ((Keep.refl h0 []).ext E361)
  rw [e361]
  exact ⟨b361, _, rfl, (Fr.app N0 (Fr.nil _)), f362, sz_b361, ge_b361, V361⟩
set_option maxRecDepth 65536 in
set_option maxHeartbeats 40000000 in
theorem rmpuc (l : Launch) (Z : State) (a0 : Array Value) (hw : ∀ d ∈ tables_1, d.before a0 Z = true) (x0 : Addr) (x1 : Int32) (x2 : Int32) (h0 : Heap) (n0 : Nat) {ks : Int32} {fm : Value} (G : OwnGl Z ks fm) (O : Old Z n0 h0) (gx : n0 ≤ x0) {kb : ClassId} {nb : Int32} {vs : List Value} {J0 J1 : Nat} (Vb : Arv Z h0 x0 kb .byte nb vs (.int 0)) (hj0 : ¬ (x1 <<< ((1 : Int32) &&& 31)) < 0 ∧ (x1 <<< ((1 : Int32) &&& 31)) < nb) (hj1 : ¬ (x1 <<< ((1 : Int32) &&& 31)) + 1 < 0 ∧ (x1 <<< ((1 : Int32) &&& 31)) + 1 < nb) (hJ0 : (x1 <<< ((1 : Int32) &&& 31)).toNatClampNeg = J0) (hJ1 : ((x1 <<< ((1 : Int32) &&& 31)) + 1).toNatClampNeg = J1) (hl0 : J0 < vs.length) (hl1 : J1 < vs.length) :
    OwnMet l Z (⟨"java/lang/StringUTF16", "putChar", "([BII)V"⟩ : MethodName) jdk_52_method_4_code 3 none [] ({ frames := 0, cells := 0, slots := 0, locals := 0 } : Room) #[(.ref x0), (.int x1), (.int x2)] h0 (fun v h L => v = none ∧ Fr n0 L ∧ Keep h0 h [x0] ∧ Arv Z h x0 kb .byte nb ((vs.set J0 (.int (x2 >>> ((0 : Int32) &&& 31)).toInt8.toInt32)).set J1 (.int (x2 >>> ((8 : Int32) &&& 31)).toInt8.toInt32)) (.int 0)) := by
  refine own_body (plainFor_of_name pn_5) (fun m => ef_puc m x0 x1 x2) ?_
  intro p e s m below meth c s₁ X0 hx hby hml hown hnm hret hlk hZ e0
  replace hown : s.vm.findClass "java/lang/StringUTF16" = some m.cls := hown
  replace hml : c.maxLocals = 3 := hml
  have N0 := Fr.nil n0
  show Ends p.tables e below _ (s₁.setTop (mkF m 0 #[.val (.ref x0), .val (.int x1), .val (.int x2)] []))
  refine own_getstatic X0 hx hby hZ hown (host := "") (Or.inl (hw _ tw_98)) Via.refl e0 (G.2.2.2.2.1.ext (O).2) d22_0 rfl (fun T363 X363 e363 => ?_)
  refine own_if_ne X363 hx hby d22_3 (pcY := 28) (pcN := 6) (by decide) rfl (fun (hc364 : ¬ (1 : Int32) = (0 : Int32)) => ?_) (fun (hc364 : (1 : Int32) = (0 : Int32)) => False.elim (by exact absurd hc364 (by decide)))
  refine own_iloadN X363 hx hby d22_28 rfl rfl ?_
  refine own_iconst X363 hx hby d22_29 rfl (1 : Int32) rfl ?_
  refine own_ishl X363 hx hby d22_30 rfl ?_
  refine own_istoreN X363 hx hby d22_31 rfl #[.val (.ref x0), .val (.int (x1 <<< ((1 : Int32) &&& 31))), .val (.int x2)] rfl ?_
  refine own_aloadN X363 hx hby d22_32 rfl rfl rfl ?_
  refine own_iloadN X363 hx hby d22_33 rfl rfl ?_
  refine own_iinc X363 hx hby d22_34 rfl (1 : Int32) rfl #[.val (.ref x0), .val (.int ((x1 <<< ((1 : Int32) &&& 31)) + (1 : Int32))), .val (.int x2)] rfl rfl ?_
  refine own_iloadN X363 hx hby d22_37 rfl rfl ?_
  refine own_getstatic X363 hx hby hZ hown (host := "") (Or.inl (hw _ tw_99)) Via.refl e363 (G.2.2.2.2.2.1.ext (O).2) d22_38 rfl (fun T365 X365 e365 => ?_)
  refine own_ishr X365 hx hby d22_41 rfl ?_
  refine own_i2b X365 hx hby d22_42 rfl ?_
  refine own_bastore X365 hx hby hZ (x2 >>> ((0 : Int32) &&& 31)).toInt8.toInt32 (own_narb _) e365 Vb hj0 J0 hJ0 (by simpa using hl0) (vs.set J0 (.int (x2 >>> ((0 : Int32) &&& 31)).toInt8.toInt32)) rfl (fits_nar_byte _) N0 gx d22_43 rfl (fun T366 h366 L366 X366 e366 W366 V366 N366 => ?_)
  refine own_aloadN X366 hx hby d22_44 rfl rfl rfl ?_
  refine own_iloadN X366 hx hby d22_45 rfl rfl ?_
  refine own_iloadN X366 hx hby d22_46 rfl rfl ?_
  have f367 := (O.wr W366 gx)
  refine own_getstatic X366 hx hby hZ hown (host := "") (Or.inl (hw _ tw_100)) Via.refl e366 (G.2.2.2.2.2.2.ext (f367).2) d22_47 rfl (fun T368 X368 e368 => ?_)
  refine own_ishr X368 hx hby d22_50 rfl ?_
  refine own_i2b X368 hx hby d22_51 rfl ?_
  refine own_bastore X368 hx hby hZ (x2 >>> ((8 : Int32) &&& 31)).toInt8.toInt32 (own_narb _) e368 V366 hj1 J1 hJ1 (by simpa using hl1) ((vs.set J0 (.int (x2 >>> ((0 : Int32) &&& 31)).toInt8.toInt32)).set J1 (.int (x2 >>> ((8 : Int32) &&& 31)).toInt8.toInt32)) rfl (fits_nar_byte _) N366 gx d22_52 rfl (fun T369 h369 L369 X369 e369 W369 V369 N369 => ?_)
  refine own_retV X369 hx hby hret hlk d22_53 (by decide) (by decide) ?_
  have f370 := (((Keep.refl h0 [x0]).wr W366 (Or.inl (by simp))).wr W369 (Or.inl (by simp)))
  rw [e369]
  exact ⟨rfl, N369, f370, V369⟩
set_option maxRecDepth 65536 in
set_option maxHeartbeats 40000000 in
theorem rmtob_1 (l : Launch) (Z : State) (a0 : Array Value) (hw : ∀ d ∈ tables_1, d.before a0 Z = true) (x0 : Addr) (h0 : Heap) (n0 : Nat) {ks : Int32} {fm : Value} (G : OwnGl Z ks fm) (O : Old Z n0 h0) {ka : ClassId} {y0 : Int32} (hr0 : 0 ≤ y0.toInt ∧ y0.toInt < 65536) (Va : Arv Z h0 x0 ka .char (1 : Int32) [(.int y0)] (.int 0)) :
    OwnMet l Z (⟨"java/lang/StringUTF16", "toBytes", "([CII)[B"⟩ : MethodName) jdk_52_method_14_code 5 (some (.array .byte)) [] ({ frames := 2, cells := 1, slots := 2, locals := 24 } : Room) #[(.ref x0), (.int (0 : Int32)), (.int (1 : Int32))] h0 (fun v h L => ∃ b k, v = some (.ref b) ∧ Fr n0 L ∧ Keep h0 h [] ∧ h0.size ≤ b ∧ n0 ≤ b ∧ Arv Z h b k .byte (2 : Int32) [(.int (y0 >>> ((0 : Int32) &&& 31)).toInt8.toInt32), (.int (y0 >>> ((8 : Int32) &&& 31)).toInt8.toInt32)] (.int 0)) := by
  refine own_body (plainFor_of_name pn_5) (fun m => ef_tob_1 m x0) ?_
  intro p e s m below meth c s₁ X0 hx hby hml hown hnm hret hlk hZ e0
  replace hown : s.vm.findClass "java/lang/StringUTF16" = some m.cls := hown
  replace hml : c.maxLocals = 5 := hml
  have N0 := Fr.nil n0
  show Ends p.tables e below _ (s₁.setTop (mkF m 0 #[.val (.ref x0), .val (.int (0 : Int32)), .val (.int (1 : Int32)), .unset, .unset] []))
  refine own_iloadN X0 hx hby d19_0 rfl rfl ?_
  refine own_static X0 hx hby hZ (argsL := [(.int (1 : Int32))]) (rest := []) hown (hw _ tw_88) (hw _ tw_89) (hw _ tw_34) (hw _ tw_90) (by decide) (rmnbf_1 l Z a0 hw h0 n0 O) e0 (by rw [hml]; rfl) pd_11 rfl (by decide) (W := 0) (Nat.le_refl _) (by decide) (by decide) (by decide) d19_1 rfl rfl (fun v371 T371 L371 X371 hQ371 => ?_)
  obtain ⟨b371, k371, rfl, N371q, K371, sq371, gq371, V371⟩ := hQ371
  have ge_b371 := gq371
  have sz_b371 : h0.size ≤ b371 := sq371
  show Ends p.tables e below _ (T371.setTop (mkF m 4 #[.val (.ref x0), .val (.int (0 : Int32)), .val (.int (1 : Int32)), .unset, .unset] [(.ref b371)]))
  refine own_astoreN X371 hx hby d19_4 rfl #[.val (.ref x0), .val (.int (0 : Int32)), .val (.int (1 : Int32)), .val (.ref b371), .unset] rfl rfl ?_
  refine own_iconst X371 hx hby d19_5 rfl (0 : Int32) rfl ?_
  refine own_istore X371 hx hby d19_6 rfl #[.val (.ref x0), .val (.int (0 : Int32)), .val (.int (1 : Int32)), .val (.ref b371), .val (.int (0 : Int32))] rfl ?_
  refine own_iload X371 hx hby d19_8 rfl rfl ?_
  refine own_iloadN X371 hx hby d19_10 rfl rfl ?_
  refine own_icmp_ge X371 hx hby d19_11 (pcY := 32) (pcN := 14) (by decide) rfl (fun (hc372 : 1 ≤ 0) => False.elim (by exact absurd hc372 (by decide))) (fun (hc372 : 0 < 1) => ?_)
  refine own_aloadN X371 hx hby d19_14 rfl rfl rfl ?_
  refine own_iload X371 hx hby d19_15 rfl rfl ?_
  refine own_aloadN X371 hx hby d19_17 rfl rfl rfl ?_
  refine own_iloadN X371 hx hby d19_18 rfl rfl ?_
  have f373 := (Va.keep K371 nin0)
  refine own_caload X371 hx hby hZ y0 rfl f373 (by decide) rfl d19_19 rfl ?_
  have f375 := (O.keep K371 all0)
  refine own_static X371 hx hby hZ (argsL := [(.ref b371), (.int (0 : Int32)), (.int y0)]) (rest := []) hown (hw _ tw_95) (hw _ tw_96) (hw _ tw_34) (hw _ tw_97) (by decide) (rmpuc l Z a0 hw b371 (0 : Int32) y0 T371.heap n0 G f375 ge_b371 (J0 := 0) (J1 := 1) V371 (by decide) (by decide) (by decide) (by decide) (show 0 < 2 by decide) (show 1 < 2 by decide)) rfl (by rw [hml]; rfl) pd_12 rfl (by decide) (W := 0) (Nat.le_refl _) (by decide) (by decide) (by decide) d19_20 rfl rfl (fun v374 T374 L374 X374 hQ374 => ?_)
  obtain ⟨rfl, N374q, K374, V374⟩ := hQ374
  have V374r : Arv Z T374.heap b371 _ .byte (2 : Int32) [(.int (y0 >>> ((0 : Int32) &&& 31)).toInt8.toInt32), (.int (y0 >>> ((8 : Int32) &&& 31)).toInt8.toInt32)] (.int 0) := V374
  show Ends p.tables e below _ (T374.setTop (mkF m 23 #[.val (.ref x0), .val (.int (0 : Int32)), .val (.int (1 : Int32)), .val (.ref b371), .val (.int (0 : Int32))] []))
  refine own_iinc X374 hx hby d19_23 rfl (1 : Int32) rfl #[.val (.ref x0), .val (.int (1 : Int32)), .val (.int (1 : Int32)), .val (.ref b371), .val (.int (0 : Int32))] rfl rfl ?_
  refine own_iinc X374 hx hby d19_26 rfl (1 : Int32) rfl #[.val (.ref x0), .val (.int (1 : Int32)), .val (.int (1 : Int32)), .val (.ref b371), .val (.int (1 : Int32))] rfl rfl ?_
  refine own_goto X374 hx hby d19_29 (pc' := 8) (by decide) ?_
  refine own_iload X374 hx hby d19_8 rfl rfl ?_
  refine own_iloadN X374 hx hby d19_10 rfl rfl ?_
  refine own_icmp_ge X374 hx hby d19_11 (pcY := 32) (pcN := 14) (by decide) rfl (fun (hc376 : 1 ≤ 1) => ?_) (fun (hc376 : 1 < 1) => False.elim (by exact absurd hc376 (by decide)))
  refine own_aloadN X374 hx hby d19_32 rfl rfl rfl ?_
  refine own_ret X374 hx hby hret hlk d19_33 (.ref b371) rfl (Or.inr (Or.inr ⟨rfl, rfl, rfl⟩)) (by decide) (by decide) ?_
  have f377 := (((Keep.refl h0 []).trans K371 all0).trans K374 (allS (Or.inr sz_b371) all0))
  exact ⟨b371, _, rfl, (Fr.app (Fr.app N0 N371q) N374q), f377, sz_b371, ge_b371, V374r⟩
set_option maxRecDepth 65536 in
set_option maxHeartbeats 40000000 in
theorem rmtob_2 (l : Launch) (Z : State) (a0 : Array Value) (hw : ∀ d ∈ tables_1, d.before a0 Z = true) (x0 : Addr) (h0 : Heap) (n0 : Nat) {ks : Int32} {fm : Value} (G : OwnGl Z ks fm) (O : Old Z n0 h0) {ka : ClassId} {y0 y1 : Int32} (hr0 : 0 ≤ y0.toInt ∧ y0.toInt < 65536) (hr1 : 0 ≤ y1.toInt ∧ y1.toInt < 65536) (Va : Arv Z h0 x0 ka .char (2 : Int32) [(.int y0), (.int y1)] (.int 0)) :
    OwnMet l Z (⟨"java/lang/StringUTF16", "toBytes", "([CII)[B"⟩ : MethodName) jdk_52_method_14_code 5 (some (.array .byte)) [] ({ frames := 2, cells := 1, slots := 4, locals := 24 } : Room) #[(.ref x0), (.int (0 : Int32)), (.int (2 : Int32))] h0 (fun v h L => ∃ b k, v = some (.ref b) ∧ Fr n0 L ∧ Keep h0 h [] ∧ h0.size ≤ b ∧ n0 ≤ b ∧ Arv Z h b k .byte (4 : Int32) [(.int (y0 >>> ((0 : Int32) &&& 31)).toInt8.toInt32), (.int (y0 >>> ((8 : Int32) &&& 31)).toInt8.toInt32), (.int (y1 >>> ((0 : Int32) &&& 31)).toInt8.toInt32), (.int (y1 >>> ((8 : Int32) &&& 31)).toInt8.toInt32)] (.int 0)) := by
  refine own_body (plainFor_of_name pn_5) (fun m => ef_tob_2 m x0) ?_
  intro p e s m below meth c s₁ X0 hx hby hml hown hnm hret hlk hZ e0
  replace hown : s.vm.findClass "java/lang/StringUTF16" = some m.cls := hown
  replace hml : c.maxLocals = 5 := hml
  have N0 := Fr.nil n0
  show Ends p.tables e below _ (s₁.setTop (mkF m 0 #[.val (.ref x0), .val (.int (0 : Int32)), .val (.int (2 : Int32)), .unset, .unset] []))
  refine own_iloadN X0 hx hby d19_0 rfl rfl ?_
  refine own_static X0 hx hby hZ (argsL := [(.int (2 : Int32))]) (rest := []) hown (hw _ tw_88) (hw _ tw_89) (hw _ tw_34) (hw _ tw_90) (by decide) (rmnbf_2 l Z a0 hw h0 n0 O) e0 (by rw [hml]; rfl) pd_11 rfl (by decide) (W := 0) (Nat.le_refl _) (by decide) (by decide) (by decide) d19_1 rfl rfl (fun v378 T378 L378 X378 hQ378 => ?_)
  obtain ⟨b378, k378, rfl, N378q, K378, sq378, gq378, V378⟩ := hQ378
  have ge_b378 := gq378
  have sz_b378 : h0.size ≤ b378 := sq378
  show Ends p.tables e below _ (T378.setTop (mkF m 4 #[.val (.ref x0), .val (.int (0 : Int32)), .val (.int (2 : Int32)), .unset, .unset] [(.ref b378)]))
  refine own_astoreN X378 hx hby d19_4 rfl #[.val (.ref x0), .val (.int (0 : Int32)), .val (.int (2 : Int32)), .val (.ref b378), .unset] rfl rfl ?_
  refine own_iconst X378 hx hby d19_5 rfl (0 : Int32) rfl ?_
  refine own_istore X378 hx hby d19_6 rfl #[.val (.ref x0), .val (.int (0 : Int32)), .val (.int (2 : Int32)), .val (.ref b378), .val (.int (0 : Int32))] rfl ?_
  refine own_iload X378 hx hby d19_8 rfl rfl ?_
  refine own_iloadN X378 hx hby d19_10 rfl rfl ?_
  refine own_icmp_ge X378 hx hby d19_11 (pcY := 32) (pcN := 14) (by decide) rfl (fun (hc379 : 2 ≤ 0) => False.elim (by exact absurd hc379 (by decide))) (fun (hc379 : 0 < 2) => ?_)
  refine own_aloadN X378 hx hby d19_14 rfl rfl rfl ?_
  refine own_iload X378 hx hby d19_15 rfl rfl ?_
  refine own_aloadN X378 hx hby d19_17 rfl rfl rfl ?_
  refine own_iloadN X378 hx hby d19_18 rfl rfl ?_
  have f380 := (Va.keep K378 nin0)
  refine own_caload X378 hx hby hZ y0 rfl f380 (by decide) rfl d19_19 rfl ?_
  have f382 := (O.keep K378 all0)
  refine own_static X378 hx hby hZ (argsL := [(.ref b378), (.int (0 : Int32)), (.int y0)]) (rest := []) hown (hw _ tw_95) (hw _ tw_96) (hw _ tw_34) (hw _ tw_97) (by decide) (rmpuc l Z a0 hw b378 (0 : Int32) y0 T378.heap n0 G f382 ge_b378 (J0 := 0) (J1 := 1) V378 (by decide) (by decide) (by decide) (by decide) (show 0 < 4 by decide) (show 1 < 4 by decide)) rfl (by rw [hml]; rfl) pd_12 rfl (by decide) (W := 0) (Nat.le_refl _) (by decide) (by decide) (by decide) d19_20 rfl rfl (fun v381 T381 L381 X381 hQ381 => ?_)
  obtain ⟨rfl, N381q, K381, V381⟩ := hQ381
  have V381r : Arv Z T381.heap b378 _ .byte (4 : Int32) [(.int (y0 >>> ((0 : Int32) &&& 31)).toInt8.toInt32), (.int (y0 >>> ((8 : Int32) &&& 31)).toInt8.toInt32), (.int (0 : Int32)), (.int (0 : Int32))] (.int 0) := V381
  show Ends p.tables e below _ (T381.setTop (mkF m 23 #[.val (.ref x0), .val (.int (0 : Int32)), .val (.int (2 : Int32)), .val (.ref b378), .val (.int (0 : Int32))] []))
  refine own_iinc X381 hx hby d19_23 rfl (1 : Int32) rfl #[.val (.ref x0), .val (.int (1 : Int32)), .val (.int (2 : Int32)), .val (.ref b378), .val (.int (0 : Int32))] rfl rfl ?_
  refine own_iinc X381 hx hby d19_26 rfl (1 : Int32) rfl #[.val (.ref x0), .val (.int (1 : Int32)), .val (.int (2 : Int32)), .val (.ref b378), .val (.int (1 : Int32))] rfl rfl ?_
  refine own_goto X381 hx hby d19_29 (pc' := 8) (by decide) ?_
  refine own_iload X381 hx hby d19_8 rfl rfl ?_
  refine own_iloadN X381 hx hby d19_10 rfl rfl ?_
  refine own_icmp_ge X381 hx hby d19_11 (pcY := 32) (pcN := 14) (by decide) rfl (fun (hc383 : 2 ≤ 1) => False.elim (by exact absurd hc383 (by decide))) (fun (hc383 : 1 < 2) => ?_)
  refine own_aloadN X381 hx hby d19_14 rfl rfl rfl ?_
  refine own_iload X381 hx hby d19_15 rfl rfl ?_
  refine own_aloadN X381 hx hby d19_17 rfl rfl rfl ?_
  refine own_iloadN X381 hx hby d19_18 rfl rfl ?_
  have f384 := (f380.keep K381 (ninS (Nat.ne_of_lt (Nat.lt_of_lt_of_le Va.lt sq378)) nin0))
  refine own_caload X381 hx hby hZ y1 rfl f384 (by decide) rfl d19_19 rfl ?_
  have f386 := (f382.keep K381 (allS ge_b378 all0))
  refine own_static X381 hx hby hZ (argsL := [(.ref b378), (.int (1 : Int32)), (.int y1)]) (rest := []) hown (hw _ tw_95) (hw _ tw_96) (hw _ tw_34) (hw _ tw_97) (by decide) (rmpuc l Z a0 hw b378 (1 : Int32) y1 T381.heap n0 G f386 ge_b378 (J0 := 2) (J1 := 3) V381r (by decide) (by decide) (by decide) (by decide) (show 2 < 4 by decide) (show 3 < 4 by decide)) rfl (by rw [hml]; rfl) pd_12 rfl (by decide) (W := 0) (Nat.le_refl _) (by decide) (by decide) (by decide) d19_20 rfl rfl (fun v385 T385 L385 X385 hQ385 => ?_)
  obtain ⟨rfl, N385q, K385, V385⟩ := hQ385
  have V385r : Arv Z T385.heap b378 _ .byte (4 : Int32) [(.int (y0 >>> ((0 : Int32) &&& 31)).toInt8.toInt32), (.int (y0 >>> ((8 : Int32) &&& 31)).toInt8.toInt32), (.int (y1 >>> ((0 : Int32) &&& 31)).toInt8.toInt32), (.int (y1 >>> ((8 : Int32) &&& 31)).toInt8.toInt32)] (.int 0) := V385
  show Ends p.tables e below _ (T385.setTop (mkF m 23 #[.val (.ref x0), .val (.int (1 : Int32)), .val (.int (2 : Int32)), .val (.ref b378), .val (.int (1 : Int32))] []))
  refine own_iinc X385 hx hby d19_23 rfl (1 : Int32) rfl #[.val (.ref x0), .val (.int (2 : Int32)), .val (.int (2 : Int32)), .val (.ref b378), .val (.int (1 : Int32))] rfl rfl ?_
  refine own_iinc X385 hx hby d19_26 rfl (1 : Int32) rfl #[.val (.ref x0), .val (.int (2 : Int32)), .val (.int (2 : Int32)), .val (.ref b378), .val (.int (2 : Int32))] rfl rfl ?_
  refine own_goto X385 hx hby d19_29 (pc' := 8) (by decide) ?_
  refine own_iload X385 hx hby d19_8 rfl rfl ?_
  refine own_iloadN X385 hx hby d19_10 rfl rfl ?_
  refine own_icmp_ge X385 hx hby d19_11 (pcY := 32) (pcN := 14) (by decide) rfl (fun (hc387 : 2 ≤ 2) => ?_) (fun (hc387 : 2 < 2) => False.elim (by exact absurd hc387 (by decide)))
  refine own_aloadN X385 hx hby d19_32 rfl rfl rfl ?_
  refine own_ret X385 hx hby hret hlk d19_33 (.ref b378) rfl (Or.inr (Or.inr ⟨rfl, rfl, rfl⟩)) (by decide) (by decide) ?_
  have f388 := ((((Keep.refl h0 []).trans K378 all0).trans K381 (allS (Or.inr sz_b378) all0)).trans K385 (allS (Or.inr sz_b378) all0))
  exact ⟨b378, _, rfl, (Fr.app (Fr.app (Fr.app N0 N378q) N381q) N385q), f388, sz_b378, ge_b378, V385r⟩
set_option maxRecDepth 65536 in
set_option maxHeartbeats 40000000 in
theorem rmtob_3 (l : Launch) (Z : State) (a0 : Array Value) (hw : ∀ d ∈ tables_1, d.before a0 Z = true) (x0 : Addr) (h0 : Heap) (n0 : Nat) {ks : Int32} {fm : Value} (G : OwnGl Z ks fm) (O : Old Z n0 h0) {ka : ClassId} {y0 y1 y2 : Int32} (hr0 : 0 ≤ y0.toInt ∧ y0.toInt < 65536) (hr1 : 0 ≤ y1.toInt ∧ y1.toInt < 65536) (hr2 : 0 ≤ y2.toInt ∧ y2.toInt < 65536) (Va : Arv Z h0 x0 ka .char (3 : Int32) [(.int y0), (.int y1), (.int y2)] (.int 0)) :
    OwnMet l Z (⟨"java/lang/StringUTF16", "toBytes", "([CII)[B"⟩ : MethodName) jdk_52_method_14_code 5 (some (.array .byte)) [] ({ frames := 2, cells := 1, slots := 6, locals := 24 } : Room) #[(.ref x0), (.int (0 : Int32)), (.int (3 : Int32))] h0 (fun v h L => ∃ b k, v = some (.ref b) ∧ Fr n0 L ∧ Keep h0 h [] ∧ h0.size ≤ b ∧ n0 ≤ b ∧ Arv Z h b k .byte (6 : Int32) [(.int (y0 >>> ((0 : Int32) &&& 31)).toInt8.toInt32), (.int (y0 >>> ((8 : Int32) &&& 31)).toInt8.toInt32), (.int (y1 >>> ((0 : Int32) &&& 31)).toInt8.toInt32), (.int (y1 >>> ((8 : Int32) &&& 31)).toInt8.toInt32), (.int (y2 >>> ((0 : Int32) &&& 31)).toInt8.toInt32), (.int (y2 >>> ((8 : Int32) &&& 31)).toInt8.toInt32)] (.int 0)) := by
  refine own_body (plainFor_of_name pn_5) (fun m => ef_tob_3 m x0) ?_
  intro p e s m below meth c s₁ X0 hx hby hml hown hnm hret hlk hZ e0
  replace hown : s.vm.findClass "java/lang/StringUTF16" = some m.cls := hown
  replace hml : c.maxLocals = 5 := hml
  have N0 := Fr.nil n0
  show Ends p.tables e below _ (s₁.setTop (mkF m 0 #[.val (.ref x0), .val (.int (0 : Int32)), .val (.int (3 : Int32)), .unset, .unset] []))
  refine own_iloadN X0 hx hby d19_0 rfl rfl ?_
  refine own_static X0 hx hby hZ (argsL := [(.int (3 : Int32))]) (rest := []) hown (hw _ tw_88) (hw _ tw_89) (hw _ tw_34) (hw _ tw_90) (by decide) (rmnbf_3 l Z a0 hw h0 n0 O) e0 (by rw [hml]; rfl) pd_11 rfl (by decide) (W := 0) (Nat.le_refl _) (by decide) (by decide) (by decide) d19_1 rfl rfl (fun v389 T389 L389 X389 hQ389 => ?_)
  obtain ⟨b389, k389, rfl, N389q, K389, sq389, gq389, V389⟩ := hQ389
  have ge_b389 := gq389
  have sz_b389 : h0.size ≤ b389 := sq389
  show Ends p.tables e below _ (T389.setTop (mkF m 4 #[.val (.ref x0), .val (.int (0 : Int32)), .val (.int (3 : Int32)), .unset, .unset] [(.ref b389)]))
  refine own_astoreN X389 hx hby d19_4 rfl #[.val (.ref x0), .val (.int (0 : Int32)), .val (.int (3 : Int32)), .val (.ref b389), .unset] rfl rfl ?_
  refine own_iconst X389 hx hby d19_5 rfl (0 : Int32) rfl ?_
  refine own_istore X389 hx hby d19_6 rfl #[.val (.ref x0), .val (.int (0 : Int32)), .val (.int (3 : Int32)), .val (.ref b389), .val (.int (0 : Int32))] rfl ?_
  refine own_iload X389 hx hby d19_8 rfl rfl ?_
  refine own_iloadN X389 hx hby d19_10 rfl rfl ?_
  refine own_icmp_ge X389 hx hby d19_11 (pcY := 32) (pcN := 14) (by decide) rfl (fun (hc390 : 3 ≤ 0) => False.elim (by exact absurd hc390 (by decide))) (fun (hc390 : 0 < 3) => ?_)
  refine own_aloadN X389 hx hby d19_14 rfl rfl rfl ?_
  refine own_iload X389 hx hby d19_15 rfl rfl ?_
  refine own_aloadN X389 hx hby d19_17 rfl rfl rfl ?_
  refine own_iloadN X389 hx hby d19_18 rfl rfl ?_
  have f391 := (Va.keep K389 nin0)
  refine own_caload X389 hx hby hZ y0 rfl f391 (by decide) rfl d19_19 rfl ?_
  have f393 := (O.keep K389 all0)
  refine own_static X389 hx hby hZ (argsL := [(.ref b389), (.int (0 : Int32)), (.int y0)]) (rest := []) hown (hw _ tw_95) (hw _ tw_96) (hw _ tw_34) (hw _ tw_97) (by decide) (rmpuc l Z a0 hw b389 (0 : Int32) y0 T389.heap n0 G f393 ge_b389 (J0 := 0) (J1 := 1) V389 (by decide) (by decide) (by decide) (by decide) (show 0 < 6 by decide) (show 1 < 6 by decide)) rfl (by rw [hml]; rfl) pd_12 rfl (by decide) (W := 0) (Nat.le_refl _) (by decide) (by decide) (by decide) d19_20 rfl rfl (fun v392 T392 L392 X392 hQ392 => ?_)
  obtain ⟨rfl, N392q, K392, V392⟩ := hQ392
  have V392r : Arv Z T392.heap b389 _ .byte (6 : Int32) [(.int (y0 >>> ((0 : Int32) &&& 31)).toInt8.toInt32), (.int (y0 >>> ((8 : Int32) &&& 31)).toInt8.toInt32), (.int (0 : Int32)), (.int (0 : Int32)), (.int (0 : Int32)), (.int (0 : Int32))] (.int 0) := V392
  show Ends p.tables e below _ (T392.setTop (mkF m 23 #[.val (.ref x0), .val (.int (0 : Int32)), .val (.int (3 : Int32)), .val (.ref b389), .val (.int (0 : Int32))] []))
  refine own_iinc X392 hx hby d19_23 rfl (1 : Int32) rfl #[.val (.ref x0), .val (.int (1 : Int32)), .val (.int (3 : Int32)), .val (.ref b389), .val (.int (0 : Int32))] rfl rfl ?_
  refine own_iinc X392 hx hby d19_26 rfl (1 : Int32) rfl #[.val (.ref x0), .val (.int (1 : Int32)), .val (.int (3 : Int32)), .val (.ref b389), .val (.int (1 : Int32))] rfl rfl ?_
  refine own_goto X392 hx hby d19_29 (pc' := 8) (by decide) ?_
  refine own_iload X392 hx hby d19_8 rfl rfl ?_
  refine own_iloadN X392 hx hby d19_10 rfl rfl ?_
  refine own_icmp_ge X392 hx hby d19_11 (pcY := 32) (pcN := 14) (by decide) rfl (fun (hc394 : 3 ≤ 1) => False.elim (by exact absurd hc394 (by decide))) (fun (hc394 : 1 < 3) => ?_)
  refine own_aloadN X392 hx hby d19_14 rfl rfl rfl ?_
  refine own_iload X392 hx hby d19_15 rfl rfl ?_
  refine own_aloadN X392 hx hby d19_17 rfl rfl rfl ?_
  refine own_iloadN X392 hx hby d19_18 rfl rfl ?_
  have f395 := (f391.keep K392 (ninS (Nat.ne_of_lt (Nat.lt_of_lt_of_le Va.lt sq389)) nin0))
  refine own_caload X392 hx hby hZ y1 rfl f395 (by decide) rfl d19_19 rfl ?_
  have f397 := (f393.keep K392 (allS ge_b389 all0))
  refine own_static X392 hx hby hZ (argsL := [(.ref b389), (.int (1 : Int32)), (.int y1)]) (rest := []) hown (hw _ tw_95) (hw _ tw_96) (hw _ tw_34) (hw _ tw_97) (by decide) (rmpuc l Z a0 hw b389 (1 : Int32) y1 T392.heap n0 G f397 ge_b389 (J0 := 2) (J1 := 3) V392r (by decide) (by decide) (by decide) (by decide) (show 2 < 6 by decide) (show 3 < 6 by decide)) rfl (by rw [hml]; rfl) pd_12 rfl (by decide) (W := 0) (Nat.le_refl _) (by decide) (by decide) (by decide) d19_20 rfl rfl (fun v396 T396 L396 X396 hQ396 => ?_)
  obtain ⟨rfl, N396q, K396, V396⟩ := hQ396
  have V396r : Arv Z T396.heap b389 _ .byte (6 : Int32) [(.int (y0 >>> ((0 : Int32) &&& 31)).toInt8.toInt32), (.int (y0 >>> ((8 : Int32) &&& 31)).toInt8.toInt32), (.int (y1 >>> ((0 : Int32) &&& 31)).toInt8.toInt32), (.int (y1 >>> ((8 : Int32) &&& 31)).toInt8.toInt32), (.int (0 : Int32)), (.int (0 : Int32))] (.int 0) := V396
  show Ends p.tables e below _ (T396.setTop (mkF m 23 #[.val (.ref x0), .val (.int (1 : Int32)), .val (.int (3 : Int32)), .val (.ref b389), .val (.int (1 : Int32))] []))
  refine own_iinc X396 hx hby d19_23 rfl (1 : Int32) rfl #[.val (.ref x0), .val (.int (2 : Int32)), .val (.int (3 : Int32)), .val (.ref b389), .val (.int (1 : Int32))] rfl rfl ?_
  refine own_iinc X396 hx hby d19_26 rfl (1 : Int32) rfl #[.val (.ref x0), .val (.int (2 : Int32)), .val (.int (3 : Int32)), .val (.ref b389), .val (.int (2 : Int32))] rfl rfl ?_
  refine own_goto X396 hx hby d19_29 (pc' := 8) (by decide) ?_
  refine own_iload X396 hx hby d19_8 rfl rfl ?_
  refine own_iloadN X396 hx hby d19_10 rfl rfl ?_
  refine own_icmp_ge X396 hx hby d19_11 (pcY := 32) (pcN := 14) (by decide) rfl (fun (hc398 : 3 ≤ 2) => False.elim (by exact absurd hc398 (by decide))) (fun (hc398 : 2 < 3) => ?_)
  refine own_aloadN X396 hx hby d19_14 rfl rfl rfl ?_
  refine own_iload X396 hx hby d19_15 rfl rfl ?_
  refine own_aloadN X396 hx hby d19_17 rfl rfl rfl ?_
  refine own_iloadN X396 hx hby d19_18 rfl rfl ?_
  have f399 := (f395.keep K396 (ninS (Nat.ne_of_lt (Nat.lt_of_lt_of_le Va.lt sq389)) nin0))
  refine own_caload X396 hx hby hZ y2 rfl f399 (by decide) rfl d19_19 rfl ?_
  have f401 := (f397.keep K396 (allS ge_b389 all0))
  refine own_static X396 hx hby hZ (argsL := [(.ref b389), (.int (2 : Int32)), (.int y2)]) (rest := []) hown (hw _ tw_95) (hw _ tw_96) (hw _ tw_34) (hw _ tw_97) (by decide) (rmpuc l Z a0 hw b389 (2 : Int32) y2 T396.heap n0 G f401 ge_b389 (J0 := 4) (J1 := 5) V396r (by decide) (by decide) (by decide) (by decide) (show 4 < 6 by decide) (show 5 < 6 by decide)) rfl (by rw [hml]; rfl) pd_12 rfl (by decide) (W := 0) (Nat.le_refl _) (by decide) (by decide) (by decide) d19_20 rfl rfl (fun v400 T400 L400 X400 hQ400 => ?_)
  obtain ⟨rfl, N400q, K400, V400⟩ := hQ400
  have V400r : Arv Z T400.heap b389 _ .byte (6 : Int32) [(.int (y0 >>> ((0 : Int32) &&& 31)).toInt8.toInt32), (.int (y0 >>> ((8 : Int32) &&& 31)).toInt8.toInt32), (.int (y1 >>> ((0 : Int32) &&& 31)).toInt8.toInt32), (.int (y1 >>> ((8 : Int32) &&& 31)).toInt8.toInt32), (.int (y2 >>> ((0 : Int32) &&& 31)).toInt8.toInt32), (.int (y2 >>> ((8 : Int32) &&& 31)).toInt8.toInt32)] (.int 0) := V400
  show Ends p.tables e below _ (T400.setTop (mkF m 23 #[.val (.ref x0), .val (.int (2 : Int32)), .val (.int (3 : Int32)), .val (.ref b389), .val (.int (2 : Int32))] []))
  refine own_iinc X400 hx hby d19_23 rfl (1 : Int32) rfl #[.val (.ref x0), .val (.int (3 : Int32)), .val (.int (3 : Int32)), .val (.ref b389), .val (.int (2 : Int32))] rfl rfl ?_
  refine own_iinc X400 hx hby d19_26 rfl (1 : Int32) rfl #[.val (.ref x0), .val (.int (3 : Int32)), .val (.int (3 : Int32)), .val (.ref b389), .val (.int (3 : Int32))] rfl rfl ?_
  refine own_goto X400 hx hby d19_29 (pc' := 8) (by decide) ?_
  refine own_iload X400 hx hby d19_8 rfl rfl ?_
  refine own_iloadN X400 hx hby d19_10 rfl rfl ?_
  refine own_icmp_ge X400 hx hby d19_11 (pcY := 32) (pcN := 14) (by decide) rfl (fun (hc402 : 3 ≤ 3) => ?_) (fun (hc402 : 3 < 3) => False.elim (by exact absurd hc402 (by decide)))
  refine own_aloadN X400 hx hby d19_32 rfl rfl rfl ?_
  refine own_ret X400 hx hby hret hlk d19_33 (.ref b389) rfl (Or.inr (Or.inr ⟨rfl, rfl, rfl⟩)) (by decide) (by decide) ?_
  have f403 := (((((Keep.refl h0 []).trans K389 all0).trans K392 (allS (Or.inr sz_b389) all0)).trans K396 (allS (Or.inr sz_b389) all0)).trans K400 (allS (Or.inr sz_b389) all0))
  exact ⟨b389, _, rfl, (Fr.app (Fr.app (Fr.app (Fr.app N0 N389q) N392q) N396q) N400q), f403, sz_b389, ge_b389, V400r⟩
set_option maxRecDepth 65536 in
set_option maxHeartbeats 40000000 in
theorem rmtob_4 (l : Launch) (Z : State) (a0 : Array Value) (hw : ∀ d ∈ tables_1, d.before a0 Z = true) (x0 : Addr) (h0 : Heap) (n0 : Nat) {ks : Int32} {fm : Value} (G : OwnGl Z ks fm) (O : Old Z n0 h0) {ka : ClassId} {y0 y1 y2 y3 : Int32} (hr0 : 0 ≤ y0.toInt ∧ y0.toInt < 65536) (hr1 : 0 ≤ y1.toInt ∧ y1.toInt < 65536) (hr2 : 0 ≤ y2.toInt ∧ y2.toInt < 65536) (hr3 : 0 ≤ y3.toInt ∧ y3.toInt < 65536) (Va : Arv Z h0 x0 ka .char (4 : Int32) [(.int y0), (.int y1), (.int y2), (.int y3)] (.int 0)) :
    OwnMet l Z (⟨"java/lang/StringUTF16", "toBytes", "([CII)[B"⟩ : MethodName) jdk_52_method_14_code 5 (some (.array .byte)) [] ({ frames := 2, cells := 1, slots := 8, locals := 24 } : Room) #[(.ref x0), (.int (0 : Int32)), (.int (4 : Int32))] h0 (fun v h L => ∃ b k, v = some (.ref b) ∧ Fr n0 L ∧ Keep h0 h [] ∧ h0.size ≤ b ∧ n0 ≤ b ∧ Arv Z h b k .byte (8 : Int32) [(.int (y0 >>> ((0 : Int32) &&& 31)).toInt8.toInt32), (.int (y0 >>> ((8 : Int32) &&& 31)).toInt8.toInt32), (.int (y1 >>> ((0 : Int32) &&& 31)).toInt8.toInt32), (.int (y1 >>> ((8 : Int32) &&& 31)).toInt8.toInt32), (.int (y2 >>> ((0 : Int32) &&& 31)).toInt8.toInt32), (.int (y2 >>> ((8 : Int32) &&& 31)).toInt8.toInt32), (.int (y3 >>> ((0 : Int32) &&& 31)).toInt8.toInt32), (.int (y3 >>> ((8 : Int32) &&& 31)).toInt8.toInt32)] (.int 0)) := by
  refine own_body (plainFor_of_name pn_5) (fun m => ef_tob_4 m x0) ?_
  intro p e s m below meth c s₁ X0 hx hby hml hown hnm hret hlk hZ e0
  replace hown : s.vm.findClass "java/lang/StringUTF16" = some m.cls := hown
  replace hml : c.maxLocals = 5 := hml
  have N0 := Fr.nil n0
  show Ends p.tables e below _ (s₁.setTop (mkF m 0 #[.val (.ref x0), .val (.int (0 : Int32)), .val (.int (4 : Int32)), .unset, .unset] []))
  refine own_iloadN X0 hx hby d19_0 rfl rfl ?_
  refine own_static X0 hx hby hZ (argsL := [(.int (4 : Int32))]) (rest := []) hown (hw _ tw_88) (hw _ tw_89) (hw _ tw_34) (hw _ tw_90) (by decide) (rmnbf_4 l Z a0 hw h0 n0 O) e0 (by rw [hml]; rfl) pd_11 rfl (by decide) (W := 0) (Nat.le_refl _) (by decide) (by decide) (by decide) d19_1 rfl rfl (fun v404 T404 L404 X404 hQ404 => ?_)
  obtain ⟨b404, k404, rfl, N404q, K404, sq404, gq404, V404⟩ := hQ404
  have ge_b404 := gq404
  have sz_b404 : h0.size ≤ b404 := sq404
  show Ends p.tables e below _ (T404.setTop (mkF m 4 #[.val (.ref x0), .val (.int (0 : Int32)), .val (.int (4 : Int32)), .unset, .unset] [(.ref b404)]))
  refine own_astoreN X404 hx hby d19_4 rfl #[.val (.ref x0), .val (.int (0 : Int32)), .val (.int (4 : Int32)), .val (.ref b404), .unset] rfl rfl ?_
  refine own_iconst X404 hx hby d19_5 rfl (0 : Int32) rfl ?_
  refine own_istore X404 hx hby d19_6 rfl #[.val (.ref x0), .val (.int (0 : Int32)), .val (.int (4 : Int32)), .val (.ref b404), .val (.int (0 : Int32))] rfl ?_
  refine own_iload X404 hx hby d19_8 rfl rfl ?_
  refine own_iloadN X404 hx hby d19_10 rfl rfl ?_
  refine own_icmp_ge X404 hx hby d19_11 (pcY := 32) (pcN := 14) (by decide) rfl (fun (hc405 : 4 ≤ 0) => False.elim (by exact absurd hc405 (by decide))) (fun (hc405 : 0 < 4) => ?_)
  refine own_aloadN X404 hx hby d19_14 rfl rfl rfl ?_
  refine own_iload X404 hx hby d19_15 rfl rfl ?_
  refine own_aloadN X404 hx hby d19_17 rfl rfl rfl ?_
  refine own_iloadN X404 hx hby d19_18 rfl rfl ?_
  have f406 := (Va.keep K404 nin0)
  refine own_caload X404 hx hby hZ y0 rfl f406 (by decide) rfl d19_19 rfl ?_
  have f408 := (O.keep K404 all0)
  refine own_static X404 hx hby hZ (argsL := [(.ref b404), (.int (0 : Int32)), (.int y0)]) (rest := []) hown (hw _ tw_95) (hw _ tw_96) (hw _ tw_34) (hw _ tw_97) (by decide) (rmpuc l Z a0 hw b404 (0 : Int32) y0 T404.heap n0 G f408 ge_b404 (J0 := 0) (J1 := 1) V404 (by decide) (by decide) (by decide) (by decide) (show 0 < 8 by decide) (show 1 < 8 by decide)) rfl (by rw [hml]; rfl) pd_12 rfl (by decide) (W := 0) (Nat.le_refl _) (by decide) (by decide) (by decide) d19_20 rfl rfl (fun v407 T407 L407 X407 hQ407 => ?_)
  obtain ⟨rfl, N407q, K407, V407⟩ := hQ407
  have V407r : Arv Z T407.heap b404 _ .byte (8 : Int32) [(.int (y0 >>> ((0 : Int32) &&& 31)).toInt8.toInt32), (.int (y0 >>> ((8 : Int32) &&& 31)).toInt8.toInt32), (.int (0 : Int32)), (.int (0 : Int32)), (.int (0 : Int32)), (.int (0 : Int32)), (.int (0 : Int32)), (.int (0 : Int32))] (.int 0) := V407
  show Ends p.tables e below _ (T407.setTop (mkF m 23 #[.val (.ref x0), .val (.int (0 : Int32)), .val (.int (4 : Int32)), .val (.ref b404), .val (.int (0 : Int32))] []))
  refine own_iinc X407 hx hby d19_23 rfl (1 : Int32) rfl #[.val (.ref x0), .val (.int (1 : Int32)), .val (.int (4 : Int32)), .val (.ref b404), .val (.int (0 : Int32))] rfl rfl ?_
  refine own_iinc X407 hx hby d19_26 rfl (1 : Int32) rfl #[.val (.ref x0), .val (.int (1 : Int32)), .val (.int (4 : Int32)), .val (.ref b404), .val (.int (1 : Int32))] rfl rfl ?_
  refine own_goto X407 hx hby d19_29 (pc' := 8) (by decide) ?_
  refine own_iload X407 hx hby d19_8 rfl rfl ?_
  refine own_iloadN X407 hx hby d19_10 rfl rfl ?_
  refine own_icmp_ge X407 hx hby d19_11 (pcY := 32) (pcN := 14) (by decide) rfl (fun (hc409 : 4 ≤ 1) => False.elim (by exact absurd hc409 (by decide))) (fun (hc409 : 1 < 4) => ?_)
  refine own_aloadN X407 hx hby d19_14 rfl rfl rfl ?_
  refine own_iload X407 hx hby d19_15 rfl rfl ?_
  refine own_aloadN X407 hx hby d19_17 rfl rfl rfl ?_
  refine own_iloadN X407 hx hby d19_18 rfl rfl ?_
  have f410 := (f406.keep K407 (ninS (Nat.ne_of_lt (Nat.lt_of_lt_of_le Va.lt sq404)) nin0))
  refine own_caload X407 hx hby hZ y1 rfl f410 (by decide) rfl d19_19 rfl ?_
  have f412 := (f408.keep K407 (allS ge_b404 all0))
  refine own_static X407 hx hby hZ (argsL := [(.ref b404), (.int (1 : Int32)), (.int y1)]) (rest := []) hown (hw _ tw_95) (hw _ tw_96) (hw _ tw_34) (hw _ tw_97) (by decide) (rmpuc l Z a0 hw b404 (1 : Int32) y1 T407.heap n0 G f412 ge_b404 (J0 := 2) (J1 := 3) V407r (by decide) (by decide) (by decide) (by decide) (show 2 < 8 by decide) (show 3 < 8 by decide)) rfl (by rw [hml]; rfl) pd_12 rfl (by decide) (W := 0) (Nat.le_refl _) (by decide) (by decide) (by decide) d19_20 rfl rfl (fun v411 T411 L411 X411 hQ411 => ?_)
  obtain ⟨rfl, N411q, K411, V411⟩ := hQ411
  have V411r : Arv Z T411.heap b404 _ .byte (8 : Int32) [(.int (y0 >>> ((0 : Int32) &&& 31)).toInt8.toInt32), (.int (y0 >>> ((8 : Int32) &&& 31)).toInt8.toInt32), (.int (y1 >>> ((0 : Int32) &&& 31)).toInt8.toInt32), (.int (y1 >>> ((8 : Int32) &&& 31)).toInt8.toInt32), (.int (0 : Int32)), (.int (0 : Int32)), (.int (0 : Int32)), (.int (0 : Int32))] (.int 0) := V411
  show Ends p.tables e below _ (T411.setTop (mkF m 23 #[.val (.ref x0), .val (.int (1 : Int32)), .val (.int (4 : Int32)), .val (.ref b404), .val (.int (1 : Int32))] []))
  refine own_iinc X411 hx hby d19_23 rfl (1 : Int32) rfl #[.val (.ref x0), .val (.int (2 : Int32)), .val (.int (4 : Int32)), .val (.ref b404), .val (.int (1 : Int32))] rfl rfl ?_
  refine own_iinc X411 hx hby d19_26 rfl (1 : Int32) rfl #[.val (.ref x0), .val (.int (2 : Int32)), .val (.int (4 : Int32)), .val (.ref b404), .val (.int (2 : Int32))] rfl rfl ?_
  refine own_goto X411 hx hby d19_29 (pc' := 8) (by decide) ?_
  refine own_iload X411 hx hby d19_8 rfl rfl ?_
  refine own_iloadN X411 hx hby d19_10 rfl rfl ?_
  refine own_icmp_ge X411 hx hby d19_11 (pcY := 32) (pcN := 14) (by decide) rfl (fun (hc413 : 4 ≤ 2) => False.elim (by exact absurd hc413 (by decide))) (fun (hc413 : 2 < 4) => ?_)
  refine own_aloadN X411 hx hby d19_14 rfl rfl rfl ?_
  refine own_iload X411 hx hby d19_15 rfl rfl ?_
  refine own_aloadN X411 hx hby d19_17 rfl rfl rfl ?_
  refine own_iloadN X411 hx hby d19_18 rfl rfl ?_
  have f414 := (f410.keep K411 (ninS (Nat.ne_of_lt (Nat.lt_of_lt_of_le Va.lt sq404)) nin0))
  refine own_caload X411 hx hby hZ y2 rfl f414 (by decide) rfl d19_19 rfl ?_
  have f416 := (f412.keep K411 (allS ge_b404 all0))
  refine own_static X411 hx hby hZ (argsL := [(.ref b404), (.int (2 : Int32)), (.int y2)]) (rest := []) hown (hw _ tw_95) (hw _ tw_96) (hw _ tw_34) (hw _ tw_97) (by decide) (rmpuc l Z a0 hw b404 (2 : Int32) y2 T411.heap n0 G f416 ge_b404 (J0 := 4) (J1 := 5) V411r (by decide) (by decide) (by decide) (by decide) (show 4 < 8 by decide) (show 5 < 8 by decide)) rfl (by rw [hml]; rfl) pd_12 rfl (by decide) (W := 0) (Nat.le_refl _) (by decide) (by decide) (by decide) d19_20 rfl rfl (fun v415 T415 L415 X415 hQ415 => ?_)
  obtain ⟨rfl, N415q, K415, V415⟩ := hQ415
  have V415r : Arv Z T415.heap b404 _ .byte (8 : Int32) [(.int (y0 >>> ((0 : Int32) &&& 31)).toInt8.toInt32), (.int (y0 >>> ((8 : Int32) &&& 31)).toInt8.toInt32), (.int (y1 >>> ((0 : Int32) &&& 31)).toInt8.toInt32), (.int (y1 >>> ((8 : Int32) &&& 31)).toInt8.toInt32), (.int (y2 >>> ((0 : Int32) &&& 31)).toInt8.toInt32), (.int (y2 >>> ((8 : Int32) &&& 31)).toInt8.toInt32), (.int (0 : Int32)), (.int (0 : Int32))] (.int 0) := V415
  show Ends p.tables e below _ (T415.setTop (mkF m 23 #[.val (.ref x0), .val (.int (2 : Int32)), .val (.int (4 : Int32)), .val (.ref b404), .val (.int (2 : Int32))] []))
  refine own_iinc X415 hx hby d19_23 rfl (1 : Int32) rfl #[.val (.ref x0), .val (.int (3 : Int32)), .val (.int (4 : Int32)), .val (.ref b404), .val (.int (2 : Int32))] rfl rfl ?_
  refine own_iinc X415 hx hby d19_26 rfl (1 : Int32) rfl #[.val (.ref x0), .val (.int (3 : Int32)), .val (.int (4 : Int32)), .val (.ref b404), .val (.int (3 : Int32))] rfl rfl ?_
  refine own_goto X415 hx hby d19_29 (pc' := 8) (by decide) ?_
  refine own_iload X415 hx hby d19_8 rfl rfl ?_
  refine own_iloadN X415 hx hby d19_10 rfl rfl ?_
  refine own_icmp_ge X415 hx hby d19_11 (pcY := 32) (pcN := 14) (by decide) rfl (fun (hc417 : 4 ≤ 3) => False.elim (by exact absurd hc417 (by decide))) (fun (hc417 : 3 < 4) => ?_)
  refine own_aloadN X415 hx hby d19_14 rfl rfl rfl ?_
  refine own_iload X415 hx hby d19_15 rfl rfl ?_
  refine own_aloadN X415 hx hby d19_17 rfl rfl rfl ?_
  refine own_iloadN X415 hx hby d19_18 rfl rfl ?_
  have f418 := (f414.keep K415 (ninS (Nat.ne_of_lt (Nat.lt_of_lt_of_le Va.lt sq404)) nin0))
  refine own_caload X415 hx hby hZ y3 rfl f418 (by decide) rfl d19_19 rfl ?_
  have f420 := (f416.keep K415 (allS ge_b404 all0))
  refine own_static X415 hx hby hZ (argsL := [(.ref b404), (.int (3 : Int32)), (.int y3)]) (rest := []) hown (hw _ tw_95) (hw _ tw_96) (hw _ tw_34) (hw _ tw_97) (by decide) (rmpuc l Z a0 hw b404 (3 : Int32) y3 T415.heap n0 G f420 ge_b404 (J0 := 6) (J1 := 7) V415r (by decide) (by decide) (by decide) (by decide) (show 6 < 8 by decide) (show 7 < 8 by decide)) rfl (by rw [hml]; rfl) pd_12 rfl (by decide) (W := 0) (Nat.le_refl _) (by decide) (by decide) (by decide) d19_20 rfl rfl (fun v419 T419 L419 X419 hQ419 => ?_)
  obtain ⟨rfl, N419q, K419, V419⟩ := hQ419
  have V419r : Arv Z T419.heap b404 _ .byte (8 : Int32) [(.int (y0 >>> ((0 : Int32) &&& 31)).toInt8.toInt32), (.int (y0 >>> ((8 : Int32) &&& 31)).toInt8.toInt32), (.int (y1 >>> ((0 : Int32) &&& 31)).toInt8.toInt32), (.int (y1 >>> ((8 : Int32) &&& 31)).toInt8.toInt32), (.int (y2 >>> ((0 : Int32) &&& 31)).toInt8.toInt32), (.int (y2 >>> ((8 : Int32) &&& 31)).toInt8.toInt32), (.int (y3 >>> ((0 : Int32) &&& 31)).toInt8.toInt32), (.int (y3 >>> ((8 : Int32) &&& 31)).toInt8.toInt32)] (.int 0) := V419
  show Ends p.tables e below _ (T419.setTop (mkF m 23 #[.val (.ref x0), .val (.int (3 : Int32)), .val (.int (4 : Int32)), .val (.ref b404), .val (.int (3 : Int32))] []))
  refine own_iinc X419 hx hby d19_23 rfl (1 : Int32) rfl #[.val (.ref x0), .val (.int (4 : Int32)), .val (.int (4 : Int32)), .val (.ref b404), .val (.int (3 : Int32))] rfl rfl ?_
  refine own_iinc X419 hx hby d19_26 rfl (1 : Int32) rfl #[.val (.ref x0), .val (.int (4 : Int32)), .val (.int (4 : Int32)), .val (.ref b404), .val (.int (4 : Int32))] rfl rfl ?_
  refine own_goto X419 hx hby d19_29 (pc' := 8) (by decide) ?_
  refine own_iload X419 hx hby d19_8 rfl rfl ?_
  refine own_iloadN X419 hx hby d19_10 rfl rfl ?_
  refine own_icmp_ge X419 hx hby d19_11 (pcY := 32) (pcN := 14) (by decide) rfl (fun (hc421 : 4 ≤ 4) => ?_) (fun (hc421 : 4 < 4) => False.elim (by exact absurd hc421 (by decide)))
  refine own_aloadN X419 hx hby d19_32 rfl rfl rfl ?_
  refine own_ret X419 hx hby hret hlk d19_33 (.ref b404) rfl (Or.inr (Or.inr ⟨rfl, rfl, rfl⟩)) (by decide) (by decide) ?_
  have f422 := ((((((Keep.refl h0 []).trans K404 all0).trans K407 (allS (Or.inr sz_b404) all0)).trans K411 (allS (Or.inr sz_b404) all0)).trans K415 (allS (Or.inr sz_b404) all0)).trans K419 (allS (Or.inr sz_b404) all0))
  exact ⟨b404, _, rfl, (Fr.app (Fr.app (Fr.app (Fr.app (Fr.app N0 N404q) N407q) N411q) N415q) N419q), f422, sz_b404, ge_b404, V419r⟩
set_option maxRecDepth 65536 in
set_option maxHeartbeats 40000000 in
theorem rmtob_5 (l : Launch) (Z : State) (a0 : Array Value) (hw : ∀ d ∈ tables_1, d.before a0 Z = true) (x0 : Addr) (h0 : Heap) (n0 : Nat) {ks : Int32} {fm : Value} (G : OwnGl Z ks fm) (O : Old Z n0 h0) {ka : ClassId} {y0 y1 y2 y3 y4 : Int32} (hr0 : 0 ≤ y0.toInt ∧ y0.toInt < 65536) (hr1 : 0 ≤ y1.toInt ∧ y1.toInt < 65536) (hr2 : 0 ≤ y2.toInt ∧ y2.toInt < 65536) (hr3 : 0 ≤ y3.toInt ∧ y3.toInt < 65536) (hr4 : 0 ≤ y4.toInt ∧ y4.toInt < 65536) (Va : Arv Z h0 x0 ka .char (5 : Int32) [(.int y0), (.int y1), (.int y2), (.int y3), (.int y4)] (.int 0)) :
    OwnMet l Z (⟨"java/lang/StringUTF16", "toBytes", "([CII)[B"⟩ : MethodName) jdk_52_method_14_code 5 (some (.array .byte)) [] ({ frames := 2, cells := 1, slots := 10, locals := 24 } : Room) #[(.ref x0), (.int (0 : Int32)), (.int (5 : Int32))] h0 (fun v h L => ∃ b k, v = some (.ref b) ∧ Fr n0 L ∧ Keep h0 h [] ∧ h0.size ≤ b ∧ n0 ≤ b ∧ Arv Z h b k .byte (10 : Int32) [(.int (y0 >>> ((0 : Int32) &&& 31)).toInt8.toInt32), (.int (y0 >>> ((8 : Int32) &&& 31)).toInt8.toInt32), (.int (y1 >>> ((0 : Int32) &&& 31)).toInt8.toInt32), (.int (y1 >>> ((8 : Int32) &&& 31)).toInt8.toInt32), (.int (y2 >>> ((0 : Int32) &&& 31)).toInt8.toInt32), (.int (y2 >>> ((8 : Int32) &&& 31)).toInt8.toInt32), (.int (y3 >>> ((0 : Int32) &&& 31)).toInt8.toInt32), (.int (y3 >>> ((8 : Int32) &&& 31)).toInt8.toInt32), (.int (y4 >>> ((0 : Int32) &&& 31)).toInt8.toInt32), (.int (y4 >>> ((8 : Int32) &&& 31)).toInt8.toInt32)] (.int 0)) := by
  refine own_body (plainFor_of_name pn_5) (fun m => ef_tob_5 m x0) ?_
  intro p e s m below meth c s₁ X0 hx hby hml hown hnm hret hlk hZ e0
  replace hown : s.vm.findClass "java/lang/StringUTF16" = some m.cls := hown
  replace hml : c.maxLocals = 5 := hml
  have N0 := Fr.nil n0
  show Ends p.tables e below _ (s₁.setTop (mkF m 0 #[.val (.ref x0), .val (.int (0 : Int32)), .val (.int (5 : Int32)), .unset, .unset] []))
  refine own_iloadN X0 hx hby d19_0 rfl rfl ?_
  refine own_static X0 hx hby hZ (argsL := [(.int (5 : Int32))]) (rest := []) hown (hw _ tw_88) (hw _ tw_89) (hw _ tw_34) (hw _ tw_90) (by decide) (rmnbf_5 l Z a0 hw h0 n0 O) e0 (by rw [hml]; rfl) pd_11 rfl (by decide) (W := 0) (Nat.le_refl _) (by decide) (by decide) (by decide) d19_1 rfl rfl (fun v423 T423 L423 X423 hQ423 => ?_)
  obtain ⟨b423, k423, rfl, N423q, K423, sq423, gq423, V423⟩ := hQ423
  have ge_b423 := gq423
  have sz_b423 : h0.size ≤ b423 := sq423
  show Ends p.tables e below _ (T423.setTop (mkF m 4 #[.val (.ref x0), .val (.int (0 : Int32)), .val (.int (5 : Int32)), .unset, .unset] [(.ref b423)]))
  refine own_astoreN X423 hx hby d19_4 rfl #[.val (.ref x0), .val (.int (0 : Int32)), .val (.int (5 : Int32)), .val (.ref b423), .unset] rfl rfl ?_
  refine own_iconst X423 hx hby d19_5 rfl (0 : Int32) rfl ?_
  refine own_istore X423 hx hby d19_6 rfl #[.val (.ref x0), .val (.int (0 : Int32)), .val (.int (5 : Int32)), .val (.ref b423), .val (.int (0 : Int32))] rfl ?_
  refine own_iload X423 hx hby d19_8 rfl rfl ?_
  refine own_iloadN X423 hx hby d19_10 rfl rfl ?_
  refine own_icmp_ge X423 hx hby d19_11 (pcY := 32) (pcN := 14) (by decide) rfl (fun (hc424 : 5 ≤ 0) => False.elim (by exact absurd hc424 (by decide))) (fun (hc424 : 0 < 5) => ?_)
  refine own_aloadN X423 hx hby d19_14 rfl rfl rfl ?_
  refine own_iload X423 hx hby d19_15 rfl rfl ?_
  refine own_aloadN X423 hx hby d19_17 rfl rfl rfl ?_
  refine own_iloadN X423 hx hby d19_18 rfl rfl ?_
  have f425 := (Va.keep K423 nin0)
  refine own_caload X423 hx hby hZ y0 rfl f425 (by decide) rfl d19_19 rfl ?_
  have f427 := (O.keep K423 all0)
  refine own_static X423 hx hby hZ (argsL := [(.ref b423), (.int (0 : Int32)), (.int y0)]) (rest := []) hown (hw _ tw_95) (hw _ tw_96) (hw _ tw_34) (hw _ tw_97) (by decide) (rmpuc l Z a0 hw b423 (0 : Int32) y0 T423.heap n0 G f427 ge_b423 (J0 := 0) (J1 := 1) V423 (by decide) (by decide) (by decide) (by decide) (show 0 < 10 by decide) (show 1 < 10 by decide)) rfl (by rw [hml]; rfl) pd_12 rfl (by decide) (W := 0) (Nat.le_refl _) (by decide) (by decide) (by decide) d19_20 rfl rfl (fun v426 T426 L426 X426 hQ426 => ?_)
  obtain ⟨rfl, N426q, K426, V426⟩ := hQ426
  have V426r : Arv Z T426.heap b423 _ .byte (10 : Int32) [(.int (y0 >>> ((0 : Int32) &&& 31)).toInt8.toInt32), (.int (y0 >>> ((8 : Int32) &&& 31)).toInt8.toInt32), (.int (0 : Int32)), (.int (0 : Int32)), (.int (0 : Int32)), (.int (0 : Int32)), (.int (0 : Int32)), (.int (0 : Int32)), (.int (0 : Int32)), (.int (0 : Int32))] (.int 0) := V426
  show Ends p.tables e below _ (T426.setTop (mkF m 23 #[.val (.ref x0), .val (.int (0 : Int32)), .val (.int (5 : Int32)), .val (.ref b423), .val (.int (0 : Int32))] []))
  refine own_iinc X426 hx hby d19_23 rfl (1 : Int32) rfl #[.val (.ref x0), .val (.int (1 : Int32)), .val (.int (5 : Int32)), .val (.ref b423), .val (.int (0 : Int32))] rfl rfl ?_
  refine own_iinc X426 hx hby d19_26 rfl (1 : Int32) rfl #[.val (.ref x0), .val (.int (1 : Int32)), .val (.int (5 : Int32)), .val (.ref b423), .val (.int (1 : Int32))] rfl rfl ?_
  refine own_goto X426 hx hby d19_29 (pc' := 8) (by decide) ?_
  refine own_iload X426 hx hby d19_8 rfl rfl ?_
  refine own_iloadN X426 hx hby d19_10 rfl rfl ?_
  refine own_icmp_ge X426 hx hby d19_11 (pcY := 32) (pcN := 14) (by decide) rfl (fun (hc428 : 5 ≤ 1) => False.elim (by exact absurd hc428 (by decide))) (fun (hc428 : 1 < 5) => ?_)
  refine own_aloadN X426 hx hby d19_14 rfl rfl rfl ?_
  refine own_iload X426 hx hby d19_15 rfl rfl ?_
  refine own_aloadN X426 hx hby d19_17 rfl rfl rfl ?_
  refine own_iloadN X426 hx hby d19_18 rfl rfl ?_
  have f429 := (f425.keep K426 (ninS (Nat.ne_of_lt (Nat.lt_of_lt_of_le Va.lt sq423)) nin0))
  refine own_caload X426 hx hby hZ y1 rfl f429 (by decide) rfl d19_19 rfl ?_
  have f431 := (f427.keep K426 (allS ge_b423 all0))
  refine own_static X426 hx hby hZ (argsL := [(.ref b423), (.int (1 : Int32)), (.int y1)]) (rest := []) hown (hw _ tw_95) (hw _ tw_96) (hw _ tw_34) (hw _ tw_97) (by decide) (rmpuc l Z a0 hw b423 (1 : Int32) y1 T426.heap n0 G f431 ge_b423 (J0 := 2) (J1 := 3) V426r (by decide) (by decide) (by decide) (by decide) (show 2 < 10 by decide) (show 3 < 10 by decide)) rfl (by rw [hml]; rfl) pd_12 rfl (by decide) (W := 0) (Nat.le_refl _) (by decide) (by decide) (by decide) d19_20 rfl rfl (fun v430 T430 L430 X430 hQ430 => ?_)
  obtain ⟨rfl, N430q, K430, V430⟩ := hQ430
  have V430r : Arv Z T430.heap b423 _ .byte (10 : Int32) [(.int (y0 >>> ((0 : Int32) &&& 31)).toInt8.toInt32), (.int (y0 >>> ((8 : Int32) &&& 31)).toInt8.toInt32), (.int (y1 >>> ((0 : Int32) &&& 31)).toInt8.toInt32), (.int (y1 >>> ((8 : Int32) &&& 31)).toInt8.toInt32), (.int (0 : Int32)), (.int (0 : Int32)), (.int (0 : Int32)), (.int (0 : Int32)), (.int (0 : Int32)), (.int (0 : Int32))] (.int 0) := V430
  show Ends p.tables e below _ (T430.setTop (mkF m 23 #[.val (.ref x0), .val (.int (1 : Int32)), .val (.int (5 : Int32)), .val (.ref b423), .val (.int (1 : Int32))] []))
  refine own_iinc X430 hx hby d19_23 rfl (1 : Int32) rfl #[.val (.ref x0), .val (.int (2 : Int32)), .val (.int (5 : Int32)), .val (.ref b423), .val (.int (1 : Int32))] rfl rfl ?_
  refine own_iinc X430 hx hby d19_26 rfl (1 : Int32) rfl #[.val (.ref x0), .val (.int (2 : Int32)), .val (.int (5 : Int32)), .val (.ref b423), .val (.int (2 : Int32))] rfl rfl ?_
  refine own_goto X430 hx hby d19_29 (pc' := 8) (by decide) ?_
  refine own_iload X430 hx hby d19_8 rfl rfl ?_
  refine own_iloadN X430 hx hby d19_10 rfl rfl ?_
  refine own_icmp_ge X430 hx hby d19_11 (pcY := 32) (pcN := 14) (by decide) rfl (fun (hc432 : 5 ≤ 2) => False.elim (by exact absurd hc432 (by decide))) (fun (hc432 : 2 < 5) => ?_)
  refine own_aloadN X430 hx hby d19_14 rfl rfl rfl ?_
  refine own_iload X430 hx hby d19_15 rfl rfl ?_
  refine own_aloadN X430 hx hby d19_17 rfl rfl rfl ?_
  refine own_iloadN X430 hx hby d19_18 rfl rfl ?_
  have f433 := (f429.keep K430 (ninS (Nat.ne_of_lt (Nat.lt_of_lt_of_le Va.lt sq423)) nin0))
  refine own_caload X430 hx hby hZ y2 rfl f433 (by decide) rfl d19_19 rfl ?_
  have f435 := (f431.keep K430 (allS ge_b423 all0))
  refine own_static X430 hx hby hZ (argsL := [(.ref b423), (.int (2 : Int32)), (.int y2)]) (rest := []) hown (hw _ tw_95) (hw _ tw_96) (hw _ tw_34) (hw _ tw_97) (by decide) (rmpuc l Z a0 hw b423 (2 : Int32) y2 T430.heap n0 G f435 ge_b423 (J0 := 4) (J1 := 5) V430r (by decide) (by decide) (by decide) (by decide) (show 4 < 10 by decide) (show 5 < 10 by decide)) rfl (by rw [hml]; rfl) pd_12 rfl (by decide) (W := 0) (Nat.le_refl _) (by decide) (by decide) (by decide) d19_20 rfl rfl (fun v434 T434 L434 X434 hQ434 => ?_)
  obtain ⟨rfl, N434q, K434, V434⟩ := hQ434
  have V434r : Arv Z T434.heap b423 _ .byte (10 : Int32) [(.int (y0 >>> ((0 : Int32) &&& 31)).toInt8.toInt32), (.int (y0 >>> ((8 : Int32) &&& 31)).toInt8.toInt32), (.int (y1 >>> ((0 : Int32) &&& 31)).toInt8.toInt32), (.int (y1 >>> ((8 : Int32) &&& 31)).toInt8.toInt32), (.int (y2 >>> ((0 : Int32) &&& 31)).toInt8.toInt32), (.int (y2 >>> ((8 : Int32) &&& 31)).toInt8.toInt32), (.int (0 : Int32)), (.int (0 : Int32)), (.int (0 : Int32)), (.int (0 : Int32))] (.int 0) := V434
  show Ends p.tables e below _ (T434.setTop (mkF m 23 #[.val (.ref x0), .val (.int (2 : Int32)), .val (.int (5 : Int32)), .val (.ref b423), .val (.int (2 : Int32))] []))
  refine own_iinc X434 hx hby d19_23 rfl (1 : Int32) rfl #[.val (.ref x0), .val (.int (3 : Int32)), .val (.int (5 : Int32)), .val (.ref b423), .val (.int (2 : Int32))] rfl rfl ?_
  refine own_iinc X434 hx hby d19_26 rfl (1 : Int32) rfl #[.val (.ref x0), .val (.int (3 : Int32)), .val (.int (5 : Int32)), .val (.ref b423), .val (.int (3 : Int32))] rfl rfl ?_
  refine own_goto X434 hx hby d19_29 (pc' := 8) (by decide) ?_
  refine own_iload X434 hx hby d19_8 rfl rfl ?_
  refine own_iloadN X434 hx hby d19_10 rfl rfl ?_
  refine own_icmp_ge X434 hx hby d19_11 (pcY := 32) (pcN := 14) (by decide) rfl (fun (hc436 : 5 ≤ 3) => False.elim (by exact absurd hc436 (by decide))) (fun (hc436 : 3 < 5) => ?_)
  refine own_aloadN X434 hx hby d19_14 rfl rfl rfl ?_
  refine own_iload X434 hx hby d19_15 rfl rfl ?_
  refine own_aloadN X434 hx hby d19_17 rfl rfl rfl ?_
  refine own_iloadN X434 hx hby d19_18 rfl rfl ?_
  have f437 := (f433.keep K434 (ninS (Nat.ne_of_lt (Nat.lt_of_lt_of_le Va.lt sq423)) nin0))
  refine own_caload X434 hx hby hZ y3 rfl f437 (by decide) rfl d19_19 rfl ?_
  have f439 := (f435.keep K434 (allS ge_b423 all0))
  refine own_static X434 hx hby hZ (argsL := [(.ref b423), (.int (3 : Int32)), (.int y3)]) (rest := []) hown (hw _ tw_95) (hw _ tw_96) (hw _ tw_34) (hw _ tw_97) (by decide) (rmpuc l Z a0 hw b423 (3 : Int32) y3 T434.heap n0 G f439 ge_b423 (J0 := 6) (J1 := 7) V434r (by decide) (by decide) (by decide) (by decide) (show 6 < 10 by decide) (show 7 < 10 by decide)) rfl (by rw [hml]; rfl) pd_12 rfl (by decide) (W := 0) (Nat.le_refl _) (by decide) (by decide) (by decide) d19_20 rfl rfl (fun v438 T438 L438 X438 hQ438 => ?_)
  obtain ⟨rfl, N438q, K438, V438⟩ := hQ438
  have V438r : Arv Z T438.heap b423 _ .byte (10 : Int32) [(.int (y0 >>> ((0 : Int32) &&& 31)).toInt8.toInt32), (.int (y0 >>> ((8 : Int32) &&& 31)).toInt8.toInt32), (.int (y1 >>> ((0 : Int32) &&& 31)).toInt8.toInt32), (.int (y1 >>> ((8 : Int32) &&& 31)).toInt8.toInt32), (.int (y2 >>> ((0 : Int32) &&& 31)).toInt8.toInt32), (.int (y2 >>> ((8 : Int32) &&& 31)).toInt8.toInt32), (.int (y3 >>> ((0 : Int32) &&& 31)).toInt8.toInt32), (.int (y3 >>> ((8 : Int32) &&& 31)).toInt8.toInt32), (.int (0 : Int32)), (.int (0 : Int32))] (.int 0) := V438
  show Ends p.tables e below _ (T438.setTop (mkF m 23 #[.val (.ref x0), .val (.int (3 : Int32)), .val (.int (5 : Int32)), .val (.ref b423), .val (.int (3 : Int32))] []))
  refine own_iinc X438 hx hby d19_23 rfl (1 : Int32) rfl #[.val (.ref x0), .val (.int (4 : Int32)), .val (.int (5 : Int32)), .val (.ref b423), .val (.int (3 : Int32))] rfl rfl ?_
  refine own_iinc X438 hx hby d19_26 rfl (1 : Int32) rfl #[.val (.ref x0), .val (.int (4 : Int32)), .val (.int (5 : Int32)), .val (.ref b423), .val (.int (4 : Int32))] rfl rfl ?_
  refine own_goto X438 hx hby d19_29 (pc' := 8) (by decide) ?_
  refine own_iload X438 hx hby d19_8 rfl rfl ?_
  refine own_iloadN X438 hx hby d19_10 rfl rfl ?_
  refine own_icmp_ge X438 hx hby d19_11 (pcY := 32) (pcN := 14) (by decide) rfl (fun (hc440 : 5 ≤ 4) => False.elim (by exact absurd hc440 (by decide))) (fun (hc440 : 4 < 5) => ?_)
  refine own_aloadN X438 hx hby d19_14 rfl rfl rfl ?_
  refine own_iload X438 hx hby d19_15 rfl rfl ?_
  refine own_aloadN X438 hx hby d19_17 rfl rfl rfl ?_
  refine own_iloadN X438 hx hby d19_18 rfl rfl ?_
  have f441 := (f437.keep K438 (ninS (Nat.ne_of_lt (Nat.lt_of_lt_of_le Va.lt sq423)) nin0))
  refine own_caload X438 hx hby hZ y4 rfl f441 (by decide) rfl d19_19 rfl ?_
  have f443 := (f439.keep K438 (allS ge_b423 all0))
  refine own_static X438 hx hby hZ (argsL := [(.ref b423), (.int (4 : Int32)), (.int y4)]) (rest := []) hown (hw _ tw_95) (hw _ tw_96) (hw _ tw_34) (hw _ tw_97) (by decide) (rmpuc l Z a0 hw b423 (4 : Int32) y4 T438.heap n0 G f443 ge_b423 (J0 := 8) (J1 := 9) V438r (by decide) (by decide) (by decide) (by decide) (show 8 < 10 by decide) (show 9 < 10 by decide)) rfl (by rw [hml]; rfl) pd_12 rfl (by decide) (W := 0) (Nat.le_refl _) (by decide) (by decide) (by decide) d19_20 rfl rfl (fun v442 T442 L442 X442 hQ442 => ?_)
  obtain ⟨rfl, N442q, K442, V442⟩ := hQ442
  have V442r : Arv Z T442.heap b423 _ .byte (10 : Int32) [(.int (y0 >>> ((0 : Int32) &&& 31)).toInt8.toInt32), (.int (y0 >>> ((8 : Int32) &&& 31)).toInt8.toInt32), (.int (y1 >>> ((0 : Int32) &&& 31)).toInt8.toInt32), (.int (y1 >>> ((8 : Int32) &&& 31)).toInt8.toInt32), (.int (y2 >>> ((0 : Int32) &&& 31)).toInt8.toInt32), (.int (y2 >>> ((8 : Int32) &&& 31)).toInt8.toInt32), (.int (y3 >>> ((0 : Int32) &&& 31)).toInt8.toInt32), (.int (y3 >>> ((8 : Int32) &&& 31)).toInt8.toInt32), (.int (y4 >>> ((0 : Int32) &&& 31)).toInt8.toInt32), (.int (y4 >>> ((8 : Int32) &&& 31)).toInt8.toInt32)] (.int 0) := V442
  show Ends p.tables e below _ (T442.setTop (mkF m 23 #[.val (.ref x0), .val (.int (4 : Int32)), .val (.int (5 : Int32)), .val (.ref b423), .val (.int (4 : Int32))] []))
  refine own_iinc X442 hx hby d19_23 rfl (1 : Int32) rfl #[.val (.ref x0), .val (.int (5 : Int32)), .val (.int (5 : Int32)), .val (.ref b423), .val (.int (4 : Int32))] rfl rfl ?_
  refine own_iinc X442 hx hby d19_26 rfl (1 : Int32) rfl #[.val (.ref x0), .val (.int (5 : Int32)), .val (.int (5 : Int32)), .val (.ref b423), .val (.int (5 : Int32))] rfl rfl ?_
  refine own_goto X442 hx hby d19_29 (pc' := 8) (by decide) ?_
  refine own_iload X442 hx hby d19_8 rfl rfl ?_
  refine own_iloadN X442 hx hby d19_10 rfl rfl ?_
  refine own_icmp_ge X442 hx hby d19_11 (pcY := 32) (pcN := 14) (by decide) rfl (fun (hc444 : 5 ≤ 5) => ?_) (fun (hc444 : 5 < 5) => False.elim (by exact absurd hc444 (by decide)))
  refine own_aloadN X442 hx hby d19_32 rfl rfl rfl ?_
  refine own_ret X442 hx hby hret hlk d19_33 (.ref b423) rfl (Or.inr (Or.inr ⟨rfl, rfl, rfl⟩)) (by decide) (by decide) ?_
  have f445 := (((((((Keep.refl h0 []).trans K423 all0).trans K426 (allS (Or.inr sz_b423) all0)).trans K430 (allS (Or.inr sz_b423) all0)).trans K434 (allS (Or.inr sz_b423) all0)).trans K438 (allS (Or.inr sz_b423) all0)).trans K442 (allS (Or.inr sz_b423) all0))
  exact ⟨b423, _, rfl, (Fr.app (Fr.app (Fr.app (Fr.app (Fr.app (Fr.app N0 N423q) N426q) N430q) N434q) N438q) N442q), f445, sz_b423, ge_b423, V442r⟩
set_option maxRecDepth 65536 in
set_option maxHeartbeats 40000000 in
theorem rmc2_1 (l : Launch) (Z : State) (a0 : Array Value) (hw : ∀ d ∈ tables_1, d.before a0 Z = true) (x0 : Addr) (x2 : Addr) (h0 : Heap) (n0 : Nat) {kb : ClassId} (gx : n0 ≤ x2) (nx : x0 ≠ x2) {ka : ClassId} {y0 : Int32} (hr0 : 0 ≤ y0.toInt ∧ y0.toInt < 65536) (Va : Arv Z h0 x0 ka .char (1 : Int32) [(.int y0)] (.int 0)) (Vb : Arv Z h0 x2 kb .byte (1 : Int32) [(.int (0 : Int32))] (.int 0)) :
    OwnMet l Z (⟨"java/lang/StringUTF16", "compress", "([CI[BII)I"⟩ : MethodName) jdk_52_method_21_code 7 (some .int) [] ({ frames := 0, cells := 0, slots := 0, locals := 0 } : Room) #[(.ref x0), (.int (0 : Int32)), (.ref x2), (.int (0 : Int32)), (.int (1 : Int32))] h0 (fun v h L => Fr n0 L ∧ Keep h0 h [x2] ∧ ((v = some (.int (1 : Int32)) ∧ (y0.toInt ≤ 255) ∧ Arv Z h x2 kb .byte (1 : Int32) [(.int y0.toInt8.toInt32)] (.int 0)) ∨ (v = some (.int (0 : Int32)) ∧ 255 < y0.toInt))) := by
  refine own_body (plainFor_of_name pn_5) (fun m => ef_c2_1 m x0 x2) ?_
  intro p e s m below meth c s₁ X0 hx hby hml hown hnm hret hlk hZ e0
  replace hown : s.vm.findClass "java/lang/StringUTF16" = some m.cls := hown
  replace hml : c.maxLocals = 7 := hml
  have N0 := Fr.nil n0
  show Ends p.tables e below _ (s₁.setTop (mkF m 0 #[.val (.ref x0), .val (.int (0 : Int32)), .val (.ref x2), .val (.int (0 : Int32)), .val (.int (1 : Int32)), .unset, .unset] []))
  have i255 : (255 : Int32).toInt = 255 := rfl
  show Ends p.tables e below _ (s₁.setTop (mkF m 0 #[.val (.ref x0), .val (.int (0 : Int32)), .val (.ref x2), .val (.int (0 : Int32)), .val (.int (1 : Int32)), .unset, .unset] []))
  refine own_iconst X0 hx hby d7_0 rfl (0 : Int32) rfl ?_
  refine own_istore X0 hx hby d7_1 rfl #[.val (.ref x0), .val (.int (0 : Int32)), .val (.ref x2), .val (.int (0 : Int32)), .val (.int (1 : Int32)), .val (.int (0 : Int32)), .unset] rfl ?_
  refine own_iload X0 hx hby d7_3 rfl rfl ?_
  refine own_iload X0 hx hby d7_5 rfl rfl ?_
  refine own_icmp_ge X0 hx hby d7_7 (pcY := 44) (pcN := 10) (by decide) rfl (fun (hc446 : 1 ≤ 0) => False.elim (by exact absurd hc446 (by decide))) (fun (hc446 : 0 < 1) => ?_)
  refine own_aloadN X0 hx hby d7_10 rfl rfl rfl ?_
  refine own_iloadN X0 hx hby d7_11 rfl rfl ?_
  refine own_caload X0 hx hby hZ y0 e0 Va (by decide) rfl d7_12 rfl ?_
  refine own_istore X0 hx hby d7_13 rfl #[.val (.ref x0), .val (.int (0 : Int32)), .val (.ref x2), .val (.int (0 : Int32)), .val (.int (1 : Int32)), .val (.int (0 : Int32)), .val (.int y0)] rfl ?_
  refine own_iload X0 hx hby d7_15 rfl rfl ?_
  refine own_sipush X0 hx hby d7_17 rfl (255 : Int32) rfl ?_
  refine own_icmp_le X0 hx hby d7_20 (pcY := 26) (pcN := 23) (by decide) rfl (fun (hc447 : y0.toInt ≤ 255) => ?_) (fun (hc447 : 255 < y0.toInt) => ?_)
  · -- pc 20: t
    refine own_aloadN X0 hx hby d7_26 rfl rfl rfl ?_
    refine own_iloadN X0 hx hby d7_27 rfl rfl ?_
    refine own_iload X0 hx hby d7_28 rfl rfl ?_
    refine own_i2b X0 hx hby d7_30 rfl ?_
    refine own_bastore X0 hx hby hZ y0.toInt8.toInt32 (own_narb _) e0 Vb (by decide) 0 rfl (show 0 < 1 by decide) [(.int y0.toInt8.toInt32)] rfl (fits_nar_byte _) N0 gx d7_31 rfl (fun T448 h448 L448 X448 e448 W448 V448 N448 => ?_)
    refine own_iinc X448 hx hby d7_32 rfl (1 : Int32) rfl #[.val (.ref x0), .val (.int (1 : Int32)), .val (.ref x2), .val (.int (0 : Int32)), .val (.int (1 : Int32)), .val (.int (0 : Int32)), .val (.int y0)] rfl rfl ?_
    refine own_iinc X448 hx hby d7_35 rfl (1 : Int32) rfl #[.val (.ref x0), .val (.int (1 : Int32)), .val (.ref x2), .val (.int (1 : Int32)), .val (.int (1 : Int32)), .val (.int (0 : Int32)), .val (.int y0)] rfl rfl ?_
    refine own_iinc X448 hx hby d7_38 rfl (1 : Int32) rfl #[.val (.ref x0), .val (.int (1 : Int32)), .val (.ref x2), .val (.int (1 : Int32)), .val (.int (1 : Int32)), .val (.int (1 : Int32)), .val (.int y0)] rfl rfl ?_
    refine own_goto X448 hx hby d7_41 (pc' := 3) (by decide) ?_
    refine own_iload X448 hx hby d7_3 rfl rfl ?_
    refine own_iload X448 hx hby d7_5 rfl rfl ?_
    refine own_icmp_ge X448 hx hby d7_7 (pcY := 44) (pcN := 10) (by decide) rfl (fun (hc449 : 1 ≤ 1) => ?_) (fun (hc449 : 1 < 1) => False.elim (by exact absurd hc449 (by decide)))
    refine own_iload X448 hx hby d7_44 rfl rfl ?_
    refine own_ret X448 hx hby hret hlk d7_46 (.int (1 : Int32)) rfl (Or.inl ⟨rfl, by simp, _, rfl⟩) (by decide) (by decide) ?_
    rw [e448]
    have f450 := ((Keep.refl h0 [x2]).wr W448 (Or.inl (by simp)))
    exact ⟨N448, f450, Or.inl ⟨rfl, by omega, V448⟩⟩
  · -- pc 20: f
    refine own_iload X0 hx hby d7_23 rfl rfl ?_
    refine own_ret X0 hx hby hret hlk d7_25 (.int (0 : Int32)) rfl (Or.inl ⟨rfl, by simp, _, rfl⟩) (by decide) (by decide) ?_
    rw [e0]
    exact ⟨N0, (Keep.refl h0 [x2]), Or.inr ⟨rfl, by omega⟩⟩
set_option maxRecDepth 65536 in
set_option maxHeartbeats 40000000 in
theorem rmc2_2 (l : Launch) (Z : State) (a0 : Array Value) (hw : ∀ d ∈ tables_1, d.before a0 Z = true) (x0 : Addr) (x2 : Addr) (h0 : Heap) (n0 : Nat) {kb : ClassId} (gx : n0 ≤ x2) (nx : x0 ≠ x2) {ka : ClassId} {y0 y1 : Int32} (hr0 : 0 ≤ y0.toInt ∧ y0.toInt < 65536) (hr1 : 0 ≤ y1.toInt ∧ y1.toInt < 65536) (Va : Arv Z h0 x0 ka .char (2 : Int32) [(.int y0), (.int y1)] (.int 0)) (Vb : Arv Z h0 x2 kb .byte (2 : Int32) [(.int (0 : Int32)), (.int (0 : Int32))] (.int 0)) :
    OwnMet l Z (⟨"java/lang/StringUTF16", "compress", "([CI[BII)I"⟩ : MethodName) jdk_52_method_21_code 7 (some .int) [] ({ frames := 0, cells := 0, slots := 0, locals := 0 } : Room) #[(.ref x0), (.int (0 : Int32)), (.ref x2), (.int (0 : Int32)), (.int (2 : Int32))] h0 (fun v h L => Fr n0 L ∧ Keep h0 h [x2] ∧ ((v = some (.int (2 : Int32)) ∧ (y0.toInt ≤ 255 ∧ y1.toInt ≤ 255) ∧ Arv Z h x2 kb .byte (2 : Int32) [(.int y0.toInt8.toInt32), (.int y1.toInt8.toInt32)] (.int 0)) ∨ (v = some (.int (0 : Int32)) ∧ 255 < y0.toInt) ∨ (v = some (.int (1 : Int32)) ∧ 255 < y1.toInt))) := by
  refine own_body (plainFor_of_name pn_5) (fun m => ef_c2_2 m x0 x2) ?_
  intro p e s m below meth c s₁ X0 hx hby hml hown hnm hret hlk hZ e0
  replace hown : s.vm.findClass "java/lang/StringUTF16" = some m.cls := hown
  replace hml : c.maxLocals = 7 := hml
  have N0 := Fr.nil n0
  show Ends p.tables e below _ (s₁.setTop (mkF m 0 #[.val (.ref x0), .val (.int (0 : Int32)), .val (.ref x2), .val (.int (0 : Int32)), .val (.int (2 : Int32)), .unset, .unset] []))
  have i255 : (255 : Int32).toInt = 255 := rfl
  show Ends p.tables e below _ (s₁.setTop (mkF m 0 #[.val (.ref x0), .val (.int (0 : Int32)), .val (.ref x2), .val (.int (0 : Int32)), .val (.int (2 : Int32)), .unset, .unset] []))
  refine own_iconst X0 hx hby d7_0 rfl (0 : Int32) rfl ?_
  refine own_istore X0 hx hby d7_1 rfl #[.val (.ref x0), .val (.int (0 : Int32)), .val (.ref x2), .val (.int (0 : Int32)), .val (.int (2 : Int32)), .val (.int (0 : Int32)), .unset] rfl ?_
  refine own_iload X0 hx hby d7_3 rfl rfl ?_
  refine own_iload X0 hx hby d7_5 rfl rfl ?_
  refine own_icmp_ge X0 hx hby d7_7 (pcY := 44) (pcN := 10) (by decide) rfl (fun (hc451 : 2 ≤ 0) => False.elim (by exact absurd hc451 (by decide))) (fun (hc451 : 0 < 2) => ?_)
  refine own_aloadN X0 hx hby d7_10 rfl rfl rfl ?_
  refine own_iloadN X0 hx hby d7_11 rfl rfl ?_
  refine own_caload X0 hx hby hZ y0 e0 Va (by decide) rfl d7_12 rfl ?_
  refine own_istore X0 hx hby d7_13 rfl #[.val (.ref x0), .val (.int (0 : Int32)), .val (.ref x2), .val (.int (0 : Int32)), .val (.int (2 : Int32)), .val (.int (0 : Int32)), .val (.int y0)] rfl ?_
  refine own_iload X0 hx hby d7_15 rfl rfl ?_
  refine own_sipush X0 hx hby d7_17 rfl (255 : Int32) rfl ?_
  refine own_icmp_le X0 hx hby d7_20 (pcY := 26) (pcN := 23) (by decide) rfl (fun (hc452 : y0.toInt ≤ 255) => ?_) (fun (hc452 : 255 < y0.toInt) => ?_)
  · -- pc 20: t
    refine own_aloadN X0 hx hby d7_26 rfl rfl rfl ?_
    refine own_iloadN X0 hx hby d7_27 rfl rfl ?_
    refine own_iload X0 hx hby d7_28 rfl rfl ?_
    refine own_i2b X0 hx hby d7_30 rfl ?_
    refine own_bastore X0 hx hby hZ y0.toInt8.toInt32 (own_narb _) e0 Vb (by decide) 0 rfl (show 0 < 2 by decide) [(.int y0.toInt8.toInt32), (.int (0 : Int32))] rfl (fits_nar_byte _) N0 gx d7_31 rfl (fun T453 h453 L453 X453 e453 W453 V453 N453 => ?_)
    refine own_iinc X453 hx hby d7_32 rfl (1 : Int32) rfl #[.val (.ref x0), .val (.int (1 : Int32)), .val (.ref x2), .val (.int (0 : Int32)), .val (.int (2 : Int32)), .val (.int (0 : Int32)), .val (.int y0)] rfl rfl ?_
    refine own_iinc X453 hx hby d7_35 rfl (1 : Int32) rfl #[.val (.ref x0), .val (.int (1 : Int32)), .val (.ref x2), .val (.int (1 : Int32)), .val (.int (2 : Int32)), .val (.int (0 : Int32)), .val (.int y0)] rfl rfl ?_
    refine own_iinc X453 hx hby d7_38 rfl (1 : Int32) rfl #[.val (.ref x0), .val (.int (1 : Int32)), .val (.ref x2), .val (.int (1 : Int32)), .val (.int (2 : Int32)), .val (.int (1 : Int32)), .val (.int y0)] rfl rfl ?_
    refine own_goto X453 hx hby d7_41 (pc' := 3) (by decide) ?_
    refine own_iload X453 hx hby d7_3 rfl rfl ?_
    refine own_iload X453 hx hby d7_5 rfl rfl ?_
    refine own_icmp_ge X453 hx hby d7_7 (pcY := 44) (pcN := 10) (by decide) rfl (fun (hc454 : 2 ≤ 1) => False.elim (by exact absurd hc454 (by decide))) (fun (hc454 : 1 < 2) => ?_)
    refine own_aloadN X453 hx hby d7_10 rfl rfl rfl ?_
    refine own_iloadN X453 hx hby d7_11 rfl rfl ?_
    have f455 := (Va.other W453 nx)
    refine own_caload X453 hx hby hZ y1 e453 f455 (by decide) rfl d7_12 rfl ?_
    refine own_istore X453 hx hby d7_13 rfl #[.val (.ref x0), .val (.int (1 : Int32)), .val (.ref x2), .val (.int (1 : Int32)), .val (.int (2 : Int32)), .val (.int (1 : Int32)), .val (.int y1)] rfl ?_
    refine own_iload X453 hx hby d7_15 rfl rfl ?_
    refine own_sipush X453 hx hby d7_17 rfl (255 : Int32) rfl ?_
    refine own_icmp_le X453 hx hby d7_20 (pcY := 26) (pcN := 23) (by decide) rfl (fun (hc456 : y1.toInt ≤ 255) => ?_) (fun (hc456 : 255 < y1.toInt) => ?_)
    · -- pc 20: t
      refine own_aloadN X453 hx hby d7_26 rfl rfl rfl ?_
      refine own_iloadN X453 hx hby d7_27 rfl rfl ?_
      refine own_iload X453 hx hby d7_28 rfl rfl ?_
      refine own_i2b X453 hx hby d7_30 rfl ?_
      refine own_bastore X453 hx hby hZ y1.toInt8.toInt32 (own_narb _) e453 V453 (by decide) 1 rfl (show 1 < 2 by decide) [(.int y0.toInt8.toInt32), (.int y1.toInt8.toInt32)] rfl (fits_nar_byte _) N453 gx d7_31 rfl (fun T457 h457 L457 X457 e457 W457 V457 N457 => ?_)
      refine own_iinc X457 hx hby d7_32 rfl (1 : Int32) rfl #[.val (.ref x0), .val (.int (2 : Int32)), .val (.ref x2), .val (.int (1 : Int32)), .val (.int (2 : Int32)), .val (.int (1 : Int32)), .val (.int y1)] rfl rfl ?_
      refine own_iinc X457 hx hby d7_35 rfl (1 : Int32) rfl #[.val (.ref x0), .val (.int (2 : Int32)), .val (.ref x2), .val (.int (2 : Int32)), .val (.int (2 : Int32)), .val (.int (1 : Int32)), .val (.int y1)] rfl rfl ?_
      refine own_iinc X457 hx hby d7_38 rfl (1 : Int32) rfl #[.val (.ref x0), .val (.int (2 : Int32)), .val (.ref x2), .val (.int (2 : Int32)), .val (.int (2 : Int32)), .val (.int (2 : Int32)), .val (.int y1)] rfl rfl ?_
      refine own_goto X457 hx hby d7_41 (pc' := 3) (by decide) ?_
      refine own_iload X457 hx hby d7_3 rfl rfl ?_
      refine own_iload X457 hx hby d7_5 rfl rfl ?_
      refine own_icmp_ge X457 hx hby d7_7 (pcY := 44) (pcN := 10) (by decide) rfl (fun (hc458 : 2 ≤ 2) => ?_) (fun (hc458 : 2 < 2) => False.elim (by exact absurd hc458 (by decide)))
      refine own_iload X457 hx hby d7_44 rfl rfl ?_
      refine own_ret X457 hx hby hret hlk d7_46 (.int (2 : Int32)) rfl (Or.inl ⟨rfl, by simp, _, rfl⟩) (by decide) (by decide) ?_
      rw [e457]
      have f459 := (((Keep.refl h0 [x2]).wr W453 (Or.inl (by simp))).wr W457 (Or.inl (by simp)))
      exact ⟨N457, f459, Or.inl ⟨rfl, by omega, V457⟩⟩
    · -- pc 20: f
      refine own_iload X453 hx hby d7_23 rfl rfl ?_
      refine own_ret X453 hx hby hret hlk d7_25 (.int (1 : Int32)) rfl (Or.inl ⟨rfl, by simp, _, rfl⟩) (by decide) (by decide) ?_
      rw [e453]
      have f460 := ((Keep.refl h0 [x2]).wr W453 (Or.inl (by simp)))
      exact ⟨N453, f460, Or.inr (Or.inr ⟨rfl, by omega⟩)⟩
  · -- pc 20: f
    refine own_iload X0 hx hby d7_23 rfl rfl ?_
    refine own_ret X0 hx hby hret hlk d7_25 (.int (0 : Int32)) rfl (Or.inl ⟨rfl, by simp, _, rfl⟩) (by decide) (by decide) ?_
    rw [e0]
    exact ⟨N0, (Keep.refl h0 [x2]), Or.inr (Or.inl ⟨rfl, by omega⟩)⟩
set_option maxRecDepth 65536 in
set_option maxHeartbeats 40000000 in
theorem rmc2_3 (l : Launch) (Z : State) (a0 : Array Value) (hw : ∀ d ∈ tables_1, d.before a0 Z = true) (x0 : Addr) (x2 : Addr) (h0 : Heap) (n0 : Nat) {kb : ClassId} (gx : n0 ≤ x2) (nx : x0 ≠ x2) {ka : ClassId} {y0 y1 y2 : Int32} (hr0 : 0 ≤ y0.toInt ∧ y0.toInt < 65536) (hr1 : 0 ≤ y1.toInt ∧ y1.toInt < 65536) (hr2 : 0 ≤ y2.toInt ∧ y2.toInt < 65536) (Va : Arv Z h0 x0 ka .char (3 : Int32) [(.int y0), (.int y1), (.int y2)] (.int 0)) (Vb : Arv Z h0 x2 kb .byte (3 : Int32) [(.int (0 : Int32)), (.int (0 : Int32)), (.int (0 : Int32))] (.int 0)) :
    OwnMet l Z (⟨"java/lang/StringUTF16", "compress", "([CI[BII)I"⟩ : MethodName) jdk_52_method_21_code 7 (some .int) [] ({ frames := 0, cells := 0, slots := 0, locals := 0 } : Room) #[(.ref x0), (.int (0 : Int32)), (.ref x2), (.int (0 : Int32)), (.int (3 : Int32))] h0 (fun v h L => Fr n0 L ∧ Keep h0 h [x2] ∧ ((v = some (.int (3 : Int32)) ∧ (y0.toInt ≤ 255 ∧ y1.toInt ≤ 255 ∧ y2.toInt ≤ 255) ∧ Arv Z h x2 kb .byte (3 : Int32) [(.int y0.toInt8.toInt32), (.int y1.toInt8.toInt32), (.int y2.toInt8.toInt32)] (.int 0)) ∨ (v = some (.int (0 : Int32)) ∧ 255 < y0.toInt) ∨ (v = some (.int (1 : Int32)) ∧ 255 < y1.toInt) ∨ (v = some (.int (2 : Int32)) ∧ 255 < y2.toInt))) := by
  refine own_body (plainFor_of_name pn_5) (fun m => ef_c2_3 m x0 x2) ?_
  intro p e s m below meth c s₁ X0 hx hby hml hown hnm hret hlk hZ e0
  replace hown : s.vm.findClass "java/lang/StringUTF16" = some m.cls := hown
  replace hml : c.maxLocals = 7 := hml
  have N0 := Fr.nil n0
  show Ends p.tables e below _ (s₁.setTop (mkF m 0 #[.val (.ref x0), .val (.int (0 : Int32)), .val (.ref x2), .val (.int (0 : Int32)), .val (.int (3 : Int32)), .unset, .unset] []))
  have i255 : (255 : Int32).toInt = 255 := rfl
  show Ends p.tables e below _ (s₁.setTop (mkF m 0 #[.val (.ref x0), .val (.int (0 : Int32)), .val (.ref x2), .val (.int (0 : Int32)), .val (.int (3 : Int32)), .unset, .unset] []))
  refine own_iconst X0 hx hby d7_0 rfl (0 : Int32) rfl ?_
  refine own_istore X0 hx hby d7_1 rfl #[.val (.ref x0), .val (.int (0 : Int32)), .val (.ref x2), .val (.int (0 : Int32)), .val (.int (3 : Int32)), .val (.int (0 : Int32)), .unset] rfl ?_
  refine own_iload X0 hx hby d7_3 rfl rfl ?_
  refine own_iload X0 hx hby d7_5 rfl rfl ?_
  refine own_icmp_ge X0 hx hby d7_7 (pcY := 44) (pcN := 10) (by decide) rfl (fun (hc461 : 3 ≤ 0) => False.elim (by exact absurd hc461 (by decide))) (fun (hc461 : 0 < 3) => ?_)
  refine own_aloadN X0 hx hby d7_10 rfl rfl rfl ?_
  refine own_iloadN X0 hx hby d7_11 rfl rfl ?_
  refine own_caload X0 hx hby hZ y0 e0 Va (by decide) rfl d7_12 rfl ?_
  refine own_istore X0 hx hby d7_13 rfl #[.val (.ref x0), .val (.int (0 : Int32)), .val (.ref x2), .val (.int (0 : Int32)), .val (.int (3 : Int32)), .val (.int (0 : Int32)), .val (.int y0)] rfl ?_
  refine own_iload X0 hx hby d7_15 rfl rfl ?_
  refine own_sipush X0 hx hby d7_17 rfl (255 : Int32) rfl ?_
  refine own_icmp_le X0 hx hby d7_20 (pcY := 26) (pcN := 23) (by decide) rfl (fun (hc462 : y0.toInt ≤ 255) => ?_) (fun (hc462 : 255 < y0.toInt) => ?_)
  · -- pc 20: t
    refine own_aloadN X0 hx hby d7_26 rfl rfl rfl ?_
    refine own_iloadN X0 hx hby d7_27 rfl rfl ?_
    refine own_iload X0 hx hby d7_28 rfl rfl ?_
    refine own_i2b X0 hx hby d7_30 rfl ?_
    refine own_bastore X0 hx hby hZ y0.toInt8.toInt32 (own_narb _) e0 Vb (by decide) 0 rfl (show 0 < 3 by decide) [(.int y0.toInt8.toInt32), (.int (0 : Int32)), (.int (0 : Int32))] rfl (fits_nar_byte _) N0 gx d7_31 rfl (fun T463 h463 L463 X463 e463 W463 V463 N463 => ?_)
    refine own_iinc X463 hx hby d7_32 rfl (1 : Int32) rfl #[.val (.ref x0), .val (.int (1 : Int32)), .val (.ref x2), .val (.int (0 : Int32)), .val (.int (3 : Int32)), .val (.int (0 : Int32)), .val (.int y0)] rfl rfl ?_
    refine own_iinc X463 hx hby d7_35 rfl (1 : Int32) rfl #[.val (.ref x0), .val (.int (1 : Int32)), .val (.ref x2), .val (.int (1 : Int32)), .val (.int (3 : Int32)), .val (.int (0 : Int32)), .val (.int y0)] rfl rfl ?_
    refine own_iinc X463 hx hby d7_38 rfl (1 : Int32) rfl #[.val (.ref x0), .val (.int (1 : Int32)), .val (.ref x2), .val (.int (1 : Int32)), .val (.int (3 : Int32)), .val (.int (1 : Int32)), .val (.int y0)] rfl rfl ?_
    refine own_goto X463 hx hby d7_41 (pc' := 3) (by decide) ?_
    refine own_iload X463 hx hby d7_3 rfl rfl ?_
    refine own_iload X463 hx hby d7_5 rfl rfl ?_
    refine own_icmp_ge X463 hx hby d7_7 (pcY := 44) (pcN := 10) (by decide) rfl (fun (hc464 : 3 ≤ 1) => False.elim (by exact absurd hc464 (by decide))) (fun (hc464 : 1 < 3) => ?_)
    refine own_aloadN X463 hx hby d7_10 rfl rfl rfl ?_
    refine own_iloadN X463 hx hby d7_11 rfl rfl ?_
    have f465 := (Va.other W463 nx)
    refine own_caload X463 hx hby hZ y1 e463 f465 (by decide) rfl d7_12 rfl ?_
    refine own_istore X463 hx hby d7_13 rfl #[.val (.ref x0), .val (.int (1 : Int32)), .val (.ref x2), .val (.int (1 : Int32)), .val (.int (3 : Int32)), .val (.int (1 : Int32)), .val (.int y1)] rfl ?_
    refine own_iload X463 hx hby d7_15 rfl rfl ?_
    refine own_sipush X463 hx hby d7_17 rfl (255 : Int32) rfl ?_
    refine own_icmp_le X463 hx hby d7_20 (pcY := 26) (pcN := 23) (by decide) rfl (fun (hc466 : y1.toInt ≤ 255) => ?_) (fun (hc466 : 255 < y1.toInt) => ?_)
    · -- pc 20: t
      refine own_aloadN X463 hx hby d7_26 rfl rfl rfl ?_
      refine own_iloadN X463 hx hby d7_27 rfl rfl ?_
      refine own_iload X463 hx hby d7_28 rfl rfl ?_
      refine own_i2b X463 hx hby d7_30 rfl ?_
      refine own_bastore X463 hx hby hZ y1.toInt8.toInt32 (own_narb _) e463 V463 (by decide) 1 rfl (show 1 < 3 by decide) [(.int y0.toInt8.toInt32), (.int y1.toInt8.toInt32), (.int (0 : Int32))] rfl (fits_nar_byte _) N463 gx d7_31 rfl (fun T467 h467 L467 X467 e467 W467 V467 N467 => ?_)
      refine own_iinc X467 hx hby d7_32 rfl (1 : Int32) rfl #[.val (.ref x0), .val (.int (2 : Int32)), .val (.ref x2), .val (.int (1 : Int32)), .val (.int (3 : Int32)), .val (.int (1 : Int32)), .val (.int y1)] rfl rfl ?_
      refine own_iinc X467 hx hby d7_35 rfl (1 : Int32) rfl #[.val (.ref x0), .val (.int (2 : Int32)), .val (.ref x2), .val (.int (2 : Int32)), .val (.int (3 : Int32)), .val (.int (1 : Int32)), .val (.int y1)] rfl rfl ?_
      refine own_iinc X467 hx hby d7_38 rfl (1 : Int32) rfl #[.val (.ref x0), .val (.int (2 : Int32)), .val (.ref x2), .val (.int (2 : Int32)), .val (.int (3 : Int32)), .val (.int (2 : Int32)), .val (.int y1)] rfl rfl ?_
      refine own_goto X467 hx hby d7_41 (pc' := 3) (by decide) ?_
      refine own_iload X467 hx hby d7_3 rfl rfl ?_
      refine own_iload X467 hx hby d7_5 rfl rfl ?_
      refine own_icmp_ge X467 hx hby d7_7 (pcY := 44) (pcN := 10) (by decide) rfl (fun (hc468 : 3 ≤ 2) => False.elim (by exact absurd hc468 (by decide))) (fun (hc468 : 2 < 3) => ?_)
      refine own_aloadN X467 hx hby d7_10 rfl rfl rfl ?_
      refine own_iloadN X467 hx hby d7_11 rfl rfl ?_
      have f469 := (f465.other W467 nx)
      refine own_caload X467 hx hby hZ y2 e467 f469 (by decide) rfl d7_12 rfl ?_
      refine own_istore X467 hx hby d7_13 rfl #[.val (.ref x0), .val (.int (2 : Int32)), .val (.ref x2), .val (.int (2 : Int32)), .val (.int (3 : Int32)), .val (.int (2 : Int32)), .val (.int y2)] rfl ?_
      refine own_iload X467 hx hby d7_15 rfl rfl ?_
      refine own_sipush X467 hx hby d7_17 rfl (255 : Int32) rfl ?_
      refine own_icmp_le X467 hx hby d7_20 (pcY := 26) (pcN := 23) (by decide) rfl (fun (hc470 : y2.toInt ≤ 255) => ?_) (fun (hc470 : 255 < y2.toInt) => ?_)
      · -- pc 20: t
        refine own_aloadN X467 hx hby d7_26 rfl rfl rfl ?_
        refine own_iloadN X467 hx hby d7_27 rfl rfl ?_
        refine own_iload X467 hx hby d7_28 rfl rfl ?_
        refine own_i2b X467 hx hby d7_30 rfl ?_
        refine own_bastore X467 hx hby hZ y2.toInt8.toInt32 (own_narb _) e467 V467 (by decide) 2 rfl (show 2 < 3 by decide) [(.int y0.toInt8.toInt32), (.int y1.toInt8.toInt32), (.int y2.toInt8.toInt32)] rfl (fits_nar_byte _) N467 gx d7_31 rfl (fun T471 h471 L471 X471 e471 W471 V471 N471 => ?_)
        refine own_iinc X471 hx hby d7_32 rfl (1 : Int32) rfl #[.val (.ref x0), .val (.int (3 : Int32)), .val (.ref x2), .val (.int (2 : Int32)), .val (.int (3 : Int32)), .val (.int (2 : Int32)), .val (.int y2)] rfl rfl ?_
        refine own_iinc X471 hx hby d7_35 rfl (1 : Int32) rfl #[.val (.ref x0), .val (.int (3 : Int32)), .val (.ref x2), .val (.int (3 : Int32)), .val (.int (3 : Int32)), .val (.int (2 : Int32)), .val (.int y2)] rfl rfl ?_
        refine own_iinc X471 hx hby d7_38 rfl (1 : Int32) rfl #[.val (.ref x0), .val (.int (3 : Int32)), .val (.ref x2), .val (.int (3 : Int32)), .val (.int (3 : Int32)), .val (.int (3 : Int32)), .val (.int y2)] rfl rfl ?_
        refine own_goto X471 hx hby d7_41 (pc' := 3) (by decide) ?_
        refine own_iload X471 hx hby d7_3 rfl rfl ?_
        refine own_iload X471 hx hby d7_5 rfl rfl ?_
        refine own_icmp_ge X471 hx hby d7_7 (pcY := 44) (pcN := 10) (by decide) rfl (fun (hc472 : 3 ≤ 3) => ?_) (fun (hc472 : 3 < 3) => False.elim (by exact absurd hc472 (by decide)))
        refine own_iload X471 hx hby d7_44 rfl rfl ?_
        refine own_ret X471 hx hby hret hlk d7_46 (.int (3 : Int32)) rfl (Or.inl ⟨rfl, by simp, _, rfl⟩) (by decide) (by decide) ?_
        rw [e471]
        have f473 := ((((Keep.refl h0 [x2]).wr W463 (Or.inl (by simp))).wr W467 (Or.inl (by simp))).wr W471 (Or.inl (by simp)))
        exact ⟨N471, f473, Or.inl ⟨rfl, by omega, V471⟩⟩
      · -- pc 20: f
        refine own_iload X467 hx hby d7_23 rfl rfl ?_
        refine own_ret X467 hx hby hret hlk d7_25 (.int (2 : Int32)) rfl (Or.inl ⟨rfl, by simp, _, rfl⟩) (by decide) (by decide) ?_
        rw [e467]
        have f474 := (((Keep.refl h0 [x2]).wr W463 (Or.inl (by simp))).wr W467 (Or.inl (by simp)))
        exact ⟨N467, f474, Or.inr (Or.inr (Or.inr ⟨rfl, by omega⟩))⟩
    · -- pc 20: f
      refine own_iload X463 hx hby d7_23 rfl rfl ?_
      refine own_ret X463 hx hby hret hlk d7_25 (.int (1 : Int32)) rfl (Or.inl ⟨rfl, by simp, _, rfl⟩) (by decide) (by decide) ?_
      rw [e463]
      have f475 := ((Keep.refl h0 [x2]).wr W463 (Or.inl (by simp)))
      exact ⟨N463, f475, Or.inr (Or.inr (Or.inl ⟨rfl, by omega⟩))⟩
  · -- pc 20: f
    refine own_iload X0 hx hby d7_23 rfl rfl ?_
    refine own_ret X0 hx hby hret hlk d7_25 (.int (0 : Int32)) rfl (Or.inl ⟨rfl, by simp, _, rfl⟩) (by decide) (by decide) ?_
    rw [e0]
    exact ⟨N0, (Keep.refl h0 [x2]), Or.inr (Or.inl ⟨rfl, by omega⟩)⟩
set_option maxRecDepth 65536 in
set_option maxHeartbeats 40000000 in
theorem rmc2_4 (l : Launch) (Z : State) (a0 : Array Value) (hw : ∀ d ∈ tables_1, d.before a0 Z = true) (x0 : Addr) (x2 : Addr) (h0 : Heap) (n0 : Nat) {kb : ClassId} (gx : n0 ≤ x2) (nx : x0 ≠ x2) {ka : ClassId} {y0 y1 y2 y3 : Int32} (hr0 : 0 ≤ y0.toInt ∧ y0.toInt < 65536) (hr1 : 0 ≤ y1.toInt ∧ y1.toInt < 65536) (hr2 : 0 ≤ y2.toInt ∧ y2.toInt < 65536) (hr3 : 0 ≤ y3.toInt ∧ y3.toInt < 65536) (Va : Arv Z h0 x0 ka .char (4 : Int32) [(.int y0), (.int y1), (.int y2), (.int y3)] (.int 0)) (Vb : Arv Z h0 x2 kb .byte (4 : Int32) [(.int (0 : Int32)), (.int (0 : Int32)), (.int (0 : Int32)), (.int (0 : Int32))] (.int 0)) :
    OwnMet l Z (⟨"java/lang/StringUTF16", "compress", "([CI[BII)I"⟩ : MethodName) jdk_52_method_21_code 7 (some .int) [] ({ frames := 0, cells := 0, slots := 0, locals := 0 } : Room) #[(.ref x0), (.int (0 : Int32)), (.ref x2), (.int (0 : Int32)), (.int (4 : Int32))] h0 (fun v h L => Fr n0 L ∧ Keep h0 h [x2] ∧ ((v = some (.int (4 : Int32)) ∧ (y0.toInt ≤ 255 ∧ y1.toInt ≤ 255 ∧ y2.toInt ≤ 255 ∧ y3.toInt ≤ 255) ∧ Arv Z h x2 kb .byte (4 : Int32) [(.int y0.toInt8.toInt32), (.int y1.toInt8.toInt32), (.int y2.toInt8.toInt32), (.int y3.toInt8.toInt32)] (.int 0)) ∨ (v = some (.int (0 : Int32)) ∧ 255 < y0.toInt) ∨ (v = some (.int (1 : Int32)) ∧ 255 < y1.toInt) ∨ (v = some (.int (2 : Int32)) ∧ 255 < y2.toInt) ∨ (v = some (.int (3 : Int32)) ∧ 255 < y3.toInt))) := by
  refine own_body (plainFor_of_name pn_5) (fun m => ef_c2_4 m x0 x2) ?_
  intro p e s m below meth c s₁ X0 hx hby hml hown hnm hret hlk hZ e0
  replace hown : s.vm.findClass "java/lang/StringUTF16" = some m.cls := hown
  replace hml : c.maxLocals = 7 := hml
  have N0 := Fr.nil n0
  show Ends p.tables e below _ (s₁.setTop (mkF m 0 #[.val (.ref x0), .val (.int (0 : Int32)), .val (.ref x2), .val (.int (0 : Int32)), .val (.int (4 : Int32)), .unset, .unset] []))
  have i255 : (255 : Int32).toInt = 255 := rfl
  show Ends p.tables e below _ (s₁.setTop (mkF m 0 #[.val (.ref x0), .val (.int (0 : Int32)), .val (.ref x2), .val (.int (0 : Int32)), .val (.int (4 : Int32)), .unset, .unset] []))
  refine own_iconst X0 hx hby d7_0 rfl (0 : Int32) rfl ?_
  refine own_istore X0 hx hby d7_1 rfl #[.val (.ref x0), .val (.int (0 : Int32)), .val (.ref x2), .val (.int (0 : Int32)), .val (.int (4 : Int32)), .val (.int (0 : Int32)), .unset] rfl ?_
  refine own_iload X0 hx hby d7_3 rfl rfl ?_
  refine own_iload X0 hx hby d7_5 rfl rfl ?_
  refine own_icmp_ge X0 hx hby d7_7 (pcY := 44) (pcN := 10) (by decide) rfl (fun (hc476 : 4 ≤ 0) => False.elim (by exact absurd hc476 (by decide))) (fun (hc476 : 0 < 4) => ?_)
  refine own_aloadN X0 hx hby d7_10 rfl rfl rfl ?_
  refine own_iloadN X0 hx hby d7_11 rfl rfl ?_
  refine own_caload X0 hx hby hZ y0 e0 Va (by decide) rfl d7_12 rfl ?_
  refine own_istore X0 hx hby d7_13 rfl #[.val (.ref x0), .val (.int (0 : Int32)), .val (.ref x2), .val (.int (0 : Int32)), .val (.int (4 : Int32)), .val (.int (0 : Int32)), .val (.int y0)] rfl ?_
  refine own_iload X0 hx hby d7_15 rfl rfl ?_
  refine own_sipush X0 hx hby d7_17 rfl (255 : Int32) rfl ?_
  refine own_icmp_le X0 hx hby d7_20 (pcY := 26) (pcN := 23) (by decide) rfl (fun (hc477 : y0.toInt ≤ 255) => ?_) (fun (hc477 : 255 < y0.toInt) => ?_)
  · -- pc 20: t
    refine own_aloadN X0 hx hby d7_26 rfl rfl rfl ?_
    refine own_iloadN X0 hx hby d7_27 rfl rfl ?_
    refine own_iload X0 hx hby d7_28 rfl rfl ?_
    refine own_i2b X0 hx hby d7_30 rfl ?_
    refine own_bastore X0 hx hby hZ y0.toInt8.toInt32 (own_narb _) e0 Vb (by decide) 0 rfl (show 0 < 4 by decide) [(.int y0.toInt8.toInt32), (.int (0 : Int32)), (.int (0 : Int32)), (.int (0 : Int32))] rfl (fits_nar_byte _) N0 gx d7_31 rfl (fun T478 h478 L478 X478 e478 W478 V478 N478 => ?_)
    refine own_iinc X478 hx hby d7_32 rfl (1 : Int32) rfl #[.val (.ref x0), .val (.int (1 : Int32)), .val (.ref x2), .val (.int (0 : Int32)), .val (.int (4 : Int32)), .val (.int (0 : Int32)), .val (.int y0)] rfl rfl ?_
    refine own_iinc X478 hx hby d7_35 rfl (1 : Int32) rfl #[.val (.ref x0), .val (.int (1 : Int32)), .val (.ref x2), .val (.int (1 : Int32)), .val (.int (4 : Int32)), .val (.int (0 : Int32)), .val (.int y0)] rfl rfl ?_
    refine own_iinc X478 hx hby d7_38 rfl (1 : Int32) rfl #[.val (.ref x0), .val (.int (1 : Int32)), .val (.ref x2), .val (.int (1 : Int32)), .val (.int (4 : Int32)), .val (.int (1 : Int32)), .val (.int y0)] rfl rfl ?_
    refine own_goto X478 hx hby d7_41 (pc' := 3) (by decide) ?_
    refine own_iload X478 hx hby d7_3 rfl rfl ?_
    refine own_iload X478 hx hby d7_5 rfl rfl ?_
    refine own_icmp_ge X478 hx hby d7_7 (pcY := 44) (pcN := 10) (by decide) rfl (fun (hc479 : 4 ≤ 1) => False.elim (by exact absurd hc479 (by decide))) (fun (hc479 : 1 < 4) => ?_)
    refine own_aloadN X478 hx hby d7_10 rfl rfl rfl ?_
    refine own_iloadN X478 hx hby d7_11 rfl rfl ?_
    have f480 := (Va.other W478 nx)
    refine own_caload X478 hx hby hZ y1 e478 f480 (by decide) rfl d7_12 rfl ?_
    refine own_istore X478 hx hby d7_13 rfl #[.val (.ref x0), .val (.int (1 : Int32)), .val (.ref x2), .val (.int (1 : Int32)), .val (.int (4 : Int32)), .val (.int (1 : Int32)), .val (.int y1)] rfl ?_
    refine own_iload X478 hx hby d7_15 rfl rfl ?_
    refine own_sipush X478 hx hby d7_17 rfl (255 : Int32) rfl ?_
    refine own_icmp_le X478 hx hby d7_20 (pcY := 26) (pcN := 23) (by decide) rfl (fun (hc481 : y1.toInt ≤ 255) => ?_) (fun (hc481 : 255 < y1.toInt) => ?_)
    · -- pc 20: t
      refine own_aloadN X478 hx hby d7_26 rfl rfl rfl ?_
      refine own_iloadN X478 hx hby d7_27 rfl rfl ?_
      refine own_iload X478 hx hby d7_28 rfl rfl ?_
      refine own_i2b X478 hx hby d7_30 rfl ?_
      refine own_bastore X478 hx hby hZ y1.toInt8.toInt32 (own_narb _) e478 V478 (by decide) 1 rfl (show 1 < 4 by decide) [(.int y0.toInt8.toInt32), (.int y1.toInt8.toInt32), (.int (0 : Int32)), (.int (0 : Int32))] rfl (fits_nar_byte _) N478 gx d7_31 rfl (fun T482 h482 L482 X482 e482 W482 V482 N482 => ?_)
      refine own_iinc X482 hx hby d7_32 rfl (1 : Int32) rfl #[.val (.ref x0), .val (.int (2 : Int32)), .val (.ref x2), .val (.int (1 : Int32)), .val (.int (4 : Int32)), .val (.int (1 : Int32)), .val (.int y1)] rfl rfl ?_
      refine own_iinc X482 hx hby d7_35 rfl (1 : Int32) rfl #[.val (.ref x0), .val (.int (2 : Int32)), .val (.ref x2), .val (.int (2 : Int32)), .val (.int (4 : Int32)), .val (.int (1 : Int32)), .val (.int y1)] rfl rfl ?_
      refine own_iinc X482 hx hby d7_38 rfl (1 : Int32) rfl #[.val (.ref x0), .val (.int (2 : Int32)), .val (.ref x2), .val (.int (2 : Int32)), .val (.int (4 : Int32)), .val (.int (2 : Int32)), .val (.int y1)] rfl rfl ?_
      refine own_goto X482 hx hby d7_41 (pc' := 3) (by decide) ?_
      refine own_iload X482 hx hby d7_3 rfl rfl ?_
      refine own_iload X482 hx hby d7_5 rfl rfl ?_
      refine own_icmp_ge X482 hx hby d7_7 (pcY := 44) (pcN := 10) (by decide) rfl (fun (hc483 : 4 ≤ 2) => False.elim (by exact absurd hc483 (by decide))) (fun (hc483 : 2 < 4) => ?_)
      refine own_aloadN X482 hx hby d7_10 rfl rfl rfl ?_
      refine own_iloadN X482 hx hby d7_11 rfl rfl ?_
      have f484 := (f480.other W482 nx)
      refine own_caload X482 hx hby hZ y2 e482 f484 (by decide) rfl d7_12 rfl ?_
      refine own_istore X482 hx hby d7_13 rfl #[.val (.ref x0), .val (.int (2 : Int32)), .val (.ref x2), .val (.int (2 : Int32)), .val (.int (4 : Int32)), .val (.int (2 : Int32)), .val (.int y2)] rfl ?_
      refine own_iload X482 hx hby d7_15 rfl rfl ?_
      refine own_sipush X482 hx hby d7_17 rfl (255 : Int32) rfl ?_
      refine own_icmp_le X482 hx hby d7_20 (pcY := 26) (pcN := 23) (by decide) rfl (fun (hc485 : y2.toInt ≤ 255) => ?_) (fun (hc485 : 255 < y2.toInt) => ?_)
      · -- pc 20: t
        refine own_aloadN X482 hx hby d7_26 rfl rfl rfl ?_
        refine own_iloadN X482 hx hby d7_27 rfl rfl ?_
        refine own_iload X482 hx hby d7_28 rfl rfl ?_
        refine own_i2b X482 hx hby d7_30 rfl ?_
        refine own_bastore X482 hx hby hZ y2.toInt8.toInt32 (own_narb _) e482 V482 (by decide) 2 rfl (show 2 < 4 by decide) [(.int y0.toInt8.toInt32), (.int y1.toInt8.toInt32), (.int y2.toInt8.toInt32), (.int (0 : Int32))] rfl (fits_nar_byte _) N482 gx d7_31 rfl (fun T486 h486 L486 X486 e486 W486 V486 N486 => ?_)
        refine own_iinc X486 hx hby d7_32 rfl (1 : Int32) rfl #[.val (.ref x0), .val (.int (3 : Int32)), .val (.ref x2), .val (.int (2 : Int32)), .val (.int (4 : Int32)), .val (.int (2 : Int32)), .val (.int y2)] rfl rfl ?_
        refine own_iinc X486 hx hby d7_35 rfl (1 : Int32) rfl #[.val (.ref x0), .val (.int (3 : Int32)), .val (.ref x2), .val (.int (3 : Int32)), .val (.int (4 : Int32)), .val (.int (2 : Int32)), .val (.int y2)] rfl rfl ?_
        refine own_iinc X486 hx hby d7_38 rfl (1 : Int32) rfl #[.val (.ref x0), .val (.int (3 : Int32)), .val (.ref x2), .val (.int (3 : Int32)), .val (.int (4 : Int32)), .val (.int (3 : Int32)), .val (.int y2)] rfl rfl ?_
        refine own_goto X486 hx hby d7_41 (pc' := 3) (by decide) ?_
        refine own_iload X486 hx hby d7_3 rfl rfl ?_
        refine own_iload X486 hx hby d7_5 rfl rfl ?_
        refine own_icmp_ge X486 hx hby d7_7 (pcY := 44) (pcN := 10) (by decide) rfl (fun (hc487 : 4 ≤ 3) => False.elim (by exact absurd hc487 (by decide))) (fun (hc487 : 3 < 4) => ?_)
        refine own_aloadN X486 hx hby d7_10 rfl rfl rfl ?_
        refine own_iloadN X486 hx hby d7_11 rfl rfl ?_
        have f488 := (f484.other W486 nx)
        refine own_caload X486 hx hby hZ y3 e486 f488 (by decide) rfl d7_12 rfl ?_
        refine own_istore X486 hx hby d7_13 rfl #[.val (.ref x0), .val (.int (3 : Int32)), .val (.ref x2), .val (.int (3 : Int32)), .val (.int (4 : Int32)), .val (.int (3 : Int32)), .val (.int y3)] rfl ?_
        refine own_iload X486 hx hby d7_15 rfl rfl ?_
        refine own_sipush X486 hx hby d7_17 rfl (255 : Int32) rfl ?_
        refine own_icmp_le X486 hx hby d7_20 (pcY := 26) (pcN := 23) (by decide) rfl (fun (hc489 : y3.toInt ≤ 255) => ?_) (fun (hc489 : 255 < y3.toInt) => ?_)
        · -- pc 20: t
          refine own_aloadN X486 hx hby d7_26 rfl rfl rfl ?_
          refine own_iloadN X486 hx hby d7_27 rfl rfl ?_
          refine own_iload X486 hx hby d7_28 rfl rfl ?_
          refine own_i2b X486 hx hby d7_30 rfl ?_
          refine own_bastore X486 hx hby hZ y3.toInt8.toInt32 (own_narb _) e486 V486 (by decide) 3 rfl (show 3 < 4 by decide) [(.int y0.toInt8.toInt32), (.int y1.toInt8.toInt32), (.int y2.toInt8.toInt32), (.int y3.toInt8.toInt32)] rfl (fits_nar_byte _) N486 gx d7_31 rfl (fun T490 h490 L490 X490 e490 W490 V490 N490 => ?_)
          refine own_iinc X490 hx hby d7_32 rfl (1 : Int32) rfl #[.val (.ref x0), .val (.int (4 : Int32)), .val (.ref x2), .val (.int (3 : Int32)), .val (.int (4 : Int32)), .val (.int (3 : Int32)), .val (.int y3)] rfl rfl ?_
          refine own_iinc X490 hx hby d7_35 rfl (1 : Int32) rfl #[.val (.ref x0), .val (.int (4 : Int32)), .val (.ref x2), .val (.int (4 : Int32)), .val (.int (4 : Int32)), .val (.int (3 : Int32)), .val (.int y3)] rfl rfl ?_
          refine own_iinc X490 hx hby d7_38 rfl (1 : Int32) rfl #[.val (.ref x0), .val (.int (4 : Int32)), .val (.ref x2), .val (.int (4 : Int32)), .val (.int (4 : Int32)), .val (.int (4 : Int32)), .val (.int y3)] rfl rfl ?_
          refine own_goto X490 hx hby d7_41 (pc' := 3) (by decide) ?_
          refine own_iload X490 hx hby d7_3 rfl rfl ?_
          refine own_iload X490 hx hby d7_5 rfl rfl ?_
          refine own_icmp_ge X490 hx hby d7_7 (pcY := 44) (pcN := 10) (by decide) rfl (fun (hc491 : 4 ≤ 4) => ?_) (fun (hc491 : 4 < 4) => False.elim (by exact absurd hc491 (by decide)))
          refine own_iload X490 hx hby d7_44 rfl rfl ?_
          refine own_ret X490 hx hby hret hlk d7_46 (.int (4 : Int32)) rfl (Or.inl ⟨rfl, by simp, _, rfl⟩) (by decide) (by decide) ?_
          rw [e490]
          have f492 := (((((Keep.refl h0 [x2]).wr W478 (Or.inl (by simp))).wr W482 (Or.inl (by simp))).wr W486 (Or.inl (by simp))).wr W490 (Or.inl (by simp)))
          exact ⟨N490, f492, Or.inl ⟨rfl, by omega, V490⟩⟩
        · -- pc 20: f
          refine own_iload X486 hx hby d7_23 rfl rfl ?_
          refine own_ret X486 hx hby hret hlk d7_25 (.int (3 : Int32)) rfl (Or.inl ⟨rfl, by simp, _, rfl⟩) (by decide) (by decide) ?_
          rw [e486]
          have f493 := ((((Keep.refl h0 [x2]).wr W478 (Or.inl (by simp))).wr W482 (Or.inl (by simp))).wr W486 (Or.inl (by simp)))
          exact ⟨N486, f493, Or.inr (Or.inr (Or.inr (Or.inr ⟨rfl, by omega⟩)))⟩
      · -- pc 20: f
        refine own_iload X482 hx hby d7_23 rfl rfl ?_
        refine own_ret X482 hx hby hret hlk d7_25 (.int (2 : Int32)) rfl (Or.inl ⟨rfl, by simp, _, rfl⟩) (by decide) (by decide) ?_
        rw [e482]
        have f494 := (((Keep.refl h0 [x2]).wr W478 (Or.inl (by simp))).wr W482 (Or.inl (by simp)))
        exact ⟨N482, f494, Or.inr (Or.inr (Or.inr (Or.inl ⟨rfl, by omega⟩)))⟩
    · -- pc 20: f
      refine own_iload X478 hx hby d7_23 rfl rfl ?_
      refine own_ret X478 hx hby hret hlk d7_25 (.int (1 : Int32)) rfl (Or.inl ⟨rfl, by simp, _, rfl⟩) (by decide) (by decide) ?_
      rw [e478]
      have f495 := ((Keep.refl h0 [x2]).wr W478 (Or.inl (by simp)))
      exact ⟨N478, f495, Or.inr (Or.inr (Or.inl ⟨rfl, by omega⟩))⟩
  · -- pc 20: f
    refine own_iload X0 hx hby d7_23 rfl rfl ?_
    refine own_ret X0 hx hby hret hlk d7_25 (.int (0 : Int32)) rfl (Or.inl ⟨rfl, by simp, _, rfl⟩) (by decide) (by decide) ?_
    rw [e0]
    exact ⟨N0, (Keep.refl h0 [x2]), Or.inr (Or.inl ⟨rfl, by omega⟩)⟩
set_option maxRecDepth 65536 in
set_option maxHeartbeats 40000000 in
theorem rmc2_5 (l : Launch) (Z : State) (a0 : Array Value) (hw : ∀ d ∈ tables_1, d.before a0 Z = true) (x0 : Addr) (x2 : Addr) (h0 : Heap) (n0 : Nat) {kb : ClassId} (gx : n0 ≤ x2) (nx : x0 ≠ x2) {ka : ClassId} {y0 y1 y2 y3 y4 : Int32} (hr0 : 0 ≤ y0.toInt ∧ y0.toInt < 65536) (hr1 : 0 ≤ y1.toInt ∧ y1.toInt < 65536) (hr2 : 0 ≤ y2.toInt ∧ y2.toInt < 65536) (hr3 : 0 ≤ y3.toInt ∧ y3.toInt < 65536) (hr4 : 0 ≤ y4.toInt ∧ y4.toInt < 65536) (Va : Arv Z h0 x0 ka .char (5 : Int32) [(.int y0), (.int y1), (.int y2), (.int y3), (.int y4)] (.int 0)) (Vb : Arv Z h0 x2 kb .byte (5 : Int32) [(.int (0 : Int32)), (.int (0 : Int32)), (.int (0 : Int32)), (.int (0 : Int32)), (.int (0 : Int32))] (.int 0)) :
    OwnMet l Z (⟨"java/lang/StringUTF16", "compress", "([CI[BII)I"⟩ : MethodName) jdk_52_method_21_code 7 (some .int) [] ({ frames := 0, cells := 0, slots := 0, locals := 0 } : Room) #[(.ref x0), (.int (0 : Int32)), (.ref x2), (.int (0 : Int32)), (.int (5 : Int32))] h0 (fun v h L => Fr n0 L ∧ Keep h0 h [x2] ∧ ((v = some (.int (5 : Int32)) ∧ (y0.toInt ≤ 255 ∧ y1.toInt ≤ 255 ∧ y2.toInt ≤ 255 ∧ y3.toInt ≤ 255 ∧ y4.toInt ≤ 255) ∧ Arv Z h x2 kb .byte (5 : Int32) [(.int y0.toInt8.toInt32), (.int y1.toInt8.toInt32), (.int y2.toInt8.toInt32), (.int y3.toInt8.toInt32), (.int y4.toInt8.toInt32)] (.int 0)) ∨ (v = some (.int (0 : Int32)) ∧ 255 < y0.toInt) ∨ (v = some (.int (1 : Int32)) ∧ 255 < y1.toInt) ∨ (v = some (.int (2 : Int32)) ∧ 255 < y2.toInt) ∨ (v = some (.int (3 : Int32)) ∧ 255 < y3.toInt) ∨ (v = some (.int (4 : Int32)) ∧ 255 < y4.toInt))) := by
  refine own_body (plainFor_of_name pn_5) (fun m => ef_c2_5 m x0 x2) ?_
  intro p e s m below meth c s₁ X0 hx hby hml hown hnm hret hlk hZ e0
  replace hown : s.vm.findClass "java/lang/StringUTF16" = some m.cls := hown
  replace hml : c.maxLocals = 7 := hml
  have N0 := Fr.nil n0
  show Ends p.tables e below _ (s₁.setTop (mkF m 0 #[.val (.ref x0), .val (.int (0 : Int32)), .val (.ref x2), .val (.int (0 : Int32)), .val (.int (5 : Int32)), .unset, .unset] []))
  have i255 : (255 : Int32).toInt = 255 := rfl
  show Ends p.tables e below _ (s₁.setTop (mkF m 0 #[.val (.ref x0), .val (.int (0 : Int32)), .val (.ref x2), .val (.int (0 : Int32)), .val (.int (5 : Int32)), .unset, .unset] []))
  refine own_iconst X0 hx hby d7_0 rfl (0 : Int32) rfl ?_
  refine own_istore X0 hx hby d7_1 rfl #[.val (.ref x0), .val (.int (0 : Int32)), .val (.ref x2), .val (.int (0 : Int32)), .val (.int (5 : Int32)), .val (.int (0 : Int32)), .unset] rfl ?_
  refine own_iload X0 hx hby d7_3 rfl rfl ?_
  refine own_iload X0 hx hby d7_5 rfl rfl ?_
  refine own_icmp_ge X0 hx hby d7_7 (pcY := 44) (pcN := 10) (by decide) rfl (fun (hc496 : 5 ≤ 0) => False.elim (by exact absurd hc496 (by decide))) (fun (hc496 : 0 < 5) => ?_)
  refine own_aloadN X0 hx hby d7_10 rfl rfl rfl ?_
  refine own_iloadN X0 hx hby d7_11 rfl rfl ?_
  refine own_caload X0 hx hby hZ y0 e0 Va (by decide) rfl d7_12 rfl ?_
  refine own_istore X0 hx hby d7_13 rfl #[.val (.ref x0), .val (.int (0 : Int32)), .val (.ref x2), .val (.int (0 : Int32)), .val (.int (5 : Int32)), .val (.int (0 : Int32)), .val (.int y0)] rfl ?_
  refine own_iload X0 hx hby d7_15 rfl rfl ?_
  refine own_sipush X0 hx hby d7_17 rfl (255 : Int32) rfl ?_
  refine own_icmp_le X0 hx hby d7_20 (pcY := 26) (pcN := 23) (by decide) rfl (fun (hc497 : y0.toInt ≤ 255) => ?_) (fun (hc497 : 255 < y0.toInt) => ?_)
  · -- pc 20: t
    refine own_aloadN X0 hx hby d7_26 rfl rfl rfl ?_
    refine own_iloadN X0 hx hby d7_27 rfl rfl ?_
    refine own_iload X0 hx hby d7_28 rfl rfl ?_
    refine own_i2b X0 hx hby d7_30 rfl ?_
    refine own_bastore X0 hx hby hZ y0.toInt8.toInt32 (own_narb _) e0 Vb (by decide) 0 rfl (show 0 < 5 by decide) [(.int y0.toInt8.toInt32), (.int (0 : Int32)), (.int (0 : Int32)), (.int (0 : Int32)), (.int (0 : Int32))] rfl (fits_nar_byte _) N0 gx d7_31 rfl (fun T498 h498 L498 X498 e498 W498 V498 N498 => ?_)
    refine own_iinc X498 hx hby d7_32 rfl (1 : Int32) rfl #[.val (.ref x0), .val (.int (1 : Int32)), .val (.ref x2), .val (.int (0 : Int32)), .val (.int (5 : Int32)), .val (.int (0 : Int32)), .val (.int y0)] rfl rfl ?_
    refine own_iinc X498 hx hby d7_35 rfl (1 : Int32) rfl #[.val (.ref x0), .val (.int (1 : Int32)), .val (.ref x2), .val (.int (1 : Int32)), .val (.int (5 : Int32)), .val (.int (0 : Int32)), .val (.int y0)] rfl rfl ?_
    refine own_iinc X498 hx hby d7_38 rfl (1 : Int32) rfl #[.val (.ref x0), .val (.int (1 : Int32)), .val (.ref x2), .val (.int (1 : Int32)), .val (.int (5 : Int32)), .val (.int (1 : Int32)), .val (.int y0)] rfl rfl ?_
    refine own_goto X498 hx hby d7_41 (pc' := 3) (by decide) ?_
    refine own_iload X498 hx hby d7_3 rfl rfl ?_
    refine own_iload X498 hx hby d7_5 rfl rfl ?_
    refine own_icmp_ge X498 hx hby d7_7 (pcY := 44) (pcN := 10) (by decide) rfl (fun (hc499 : 5 ≤ 1) => False.elim (by exact absurd hc499 (by decide))) (fun (hc499 : 1 < 5) => ?_)
    refine own_aloadN X498 hx hby d7_10 rfl rfl rfl ?_
    refine own_iloadN X498 hx hby d7_11 rfl rfl ?_
    have f500 := (Va.other W498 nx)
    refine own_caload X498 hx hby hZ y1 e498 f500 (by decide) rfl d7_12 rfl ?_
    refine own_istore X498 hx hby d7_13 rfl #[.val (.ref x0), .val (.int (1 : Int32)), .val (.ref x2), .val (.int (1 : Int32)), .val (.int (5 : Int32)), .val (.int (1 : Int32)), .val (.int y1)] rfl ?_
    refine own_iload X498 hx hby d7_15 rfl rfl ?_
    refine own_sipush X498 hx hby d7_17 rfl (255 : Int32) rfl ?_
    refine own_icmp_le X498 hx hby d7_20 (pcY := 26) (pcN := 23) (by decide) rfl (fun (hc501 : y1.toInt ≤ 255) => ?_) (fun (hc501 : 255 < y1.toInt) => ?_)
    · -- pc 20: t
      refine own_aloadN X498 hx hby d7_26 rfl rfl rfl ?_
      refine own_iloadN X498 hx hby d7_27 rfl rfl ?_
      refine own_iload X498 hx hby d7_28 rfl rfl ?_
      refine own_i2b X498 hx hby d7_30 rfl ?_
      refine own_bastore X498 hx hby hZ y1.toInt8.toInt32 (own_narb _) e498 V498 (by decide) 1 rfl (show 1 < 5 by decide) [(.int y0.toInt8.toInt32), (.int y1.toInt8.toInt32), (.int (0 : Int32)), (.int (0 : Int32)), (.int (0 : Int32))] rfl (fits_nar_byte _) N498 gx d7_31 rfl (fun T502 h502 L502 X502 e502 W502 V502 N502 => ?_)
      refine own_iinc X502 hx hby d7_32 rfl (1 : Int32) rfl #[.val (.ref x0), .val (.int (2 : Int32)), .val (.ref x2), .val (.int (1 : Int32)), .val (.int (5 : Int32)), .val (.int (1 : Int32)), .val (.int y1)] rfl rfl ?_
      refine own_iinc X502 hx hby d7_35 rfl (1 : Int32) rfl #[.val (.ref x0), .val (.int (2 : Int32)), .val (.ref x2), .val (.int (2 : Int32)), .val (.int (5 : Int32)), .val (.int (1 : Int32)), .val (.int y1)] rfl rfl ?_
      refine own_iinc X502 hx hby d7_38 rfl (1 : Int32) rfl #[.val (.ref x0), .val (.int (2 : Int32)), .val (.ref x2), .val (.int (2 : Int32)), .val (.int (5 : Int32)), .val (.int (2 : Int32)), .val (.int y1)] rfl rfl ?_
      refine own_goto X502 hx hby d7_41 (pc' := 3) (by decide) ?_
      refine own_iload X502 hx hby d7_3 rfl rfl ?_
      refine own_iload X502 hx hby d7_5 rfl rfl ?_
      refine own_icmp_ge X502 hx hby d7_7 (pcY := 44) (pcN := 10) (by decide) rfl (fun (hc503 : 5 ≤ 2) => False.elim (by exact absurd hc503 (by decide))) (fun (hc503 : 2 < 5) => ?_)
      refine own_aloadN X502 hx hby d7_10 rfl rfl rfl ?_
      refine own_iloadN X502 hx hby d7_11 rfl rfl ?_
      have f504 := (f500.other W502 nx)
      refine own_caload X502 hx hby hZ y2 e502 f504 (by decide) rfl d7_12 rfl ?_
      refine own_istore X502 hx hby d7_13 rfl #[.val (.ref x0), .val (.int (2 : Int32)), .val (.ref x2), .val (.int (2 : Int32)), .val (.int (5 : Int32)), .val (.int (2 : Int32)), .val (.int y2)] rfl ?_
      refine own_iload X502 hx hby d7_15 rfl rfl ?_
      refine own_sipush X502 hx hby d7_17 rfl (255 : Int32) rfl ?_
      refine own_icmp_le X502 hx hby d7_20 (pcY := 26) (pcN := 23) (by decide) rfl (fun (hc505 : y2.toInt ≤ 255) => ?_) (fun (hc505 : 255 < y2.toInt) => ?_)
      · -- pc 20: t
        refine own_aloadN X502 hx hby d7_26 rfl rfl rfl ?_
        refine own_iloadN X502 hx hby d7_27 rfl rfl ?_
        refine own_iload X502 hx hby d7_28 rfl rfl ?_
        refine own_i2b X502 hx hby d7_30 rfl ?_
        refine own_bastore X502 hx hby hZ y2.toInt8.toInt32 (own_narb _) e502 V502 (by decide) 2 rfl (show 2 < 5 by decide) [(.int y0.toInt8.toInt32), (.int y1.toInt8.toInt32), (.int y2.toInt8.toInt32), (.int (0 : Int32)), (.int (0 : Int32))] rfl (fits_nar_byte _) N502 gx d7_31 rfl (fun T506 h506 L506 X506 e506 W506 V506 N506 => ?_)
        refine own_iinc X506 hx hby d7_32 rfl (1 : Int32) rfl #[.val (.ref x0), .val (.int (3 : Int32)), .val (.ref x2), .val (.int (2 : Int32)), .val (.int (5 : Int32)), .val (.int (2 : Int32)), .val (.int y2)] rfl rfl ?_
        refine own_iinc X506 hx hby d7_35 rfl (1 : Int32) rfl #[.val (.ref x0), .val (.int (3 : Int32)), .val (.ref x2), .val (.int (3 : Int32)), .val (.int (5 : Int32)), .val (.int (2 : Int32)), .val (.int y2)] rfl rfl ?_
        refine own_iinc X506 hx hby d7_38 rfl (1 : Int32) rfl #[.val (.ref x0), .val (.int (3 : Int32)), .val (.ref x2), .val (.int (3 : Int32)), .val (.int (5 : Int32)), .val (.int (3 : Int32)), .val (.int y2)] rfl rfl ?_
        refine own_goto X506 hx hby d7_41 (pc' := 3) (by decide) ?_
        refine own_iload X506 hx hby d7_3 rfl rfl ?_
        refine own_iload X506 hx hby d7_5 rfl rfl ?_
        refine own_icmp_ge X506 hx hby d7_7 (pcY := 44) (pcN := 10) (by decide) rfl (fun (hc507 : 5 ≤ 3) => False.elim (by exact absurd hc507 (by decide))) (fun (hc507 : 3 < 5) => ?_)
        refine own_aloadN X506 hx hby d7_10 rfl rfl rfl ?_
        refine own_iloadN X506 hx hby d7_11 rfl rfl ?_
        have f508 := (f504.other W506 nx)
        refine own_caload X506 hx hby hZ y3 e506 f508 (by decide) rfl d7_12 rfl ?_
        refine own_istore X506 hx hby d7_13 rfl #[.val (.ref x0), .val (.int (3 : Int32)), .val (.ref x2), .val (.int (3 : Int32)), .val (.int (5 : Int32)), .val (.int (3 : Int32)), .val (.int y3)] rfl ?_
        refine own_iload X506 hx hby d7_15 rfl rfl ?_
        refine own_sipush X506 hx hby d7_17 rfl (255 : Int32) rfl ?_
        refine own_icmp_le X506 hx hby d7_20 (pcY := 26) (pcN := 23) (by decide) rfl (fun (hc509 : y3.toInt ≤ 255) => ?_) (fun (hc509 : 255 < y3.toInt) => ?_)
        · -- pc 20: t
          refine own_aloadN X506 hx hby d7_26 rfl rfl rfl ?_
          refine own_iloadN X506 hx hby d7_27 rfl rfl ?_
          refine own_iload X506 hx hby d7_28 rfl rfl ?_
          refine own_i2b X506 hx hby d7_30 rfl ?_
          refine own_bastore X506 hx hby hZ y3.toInt8.toInt32 (own_narb _) e506 V506 (by decide) 3 rfl (show 3 < 5 by decide) [(.int y0.toInt8.toInt32), (.int y1.toInt8.toInt32), (.int y2.toInt8.toInt32), (.int y3.toInt8.toInt32), (.int (0 : Int32))] rfl (fits_nar_byte _) N506 gx d7_31 rfl (fun T510 h510 L510 X510 e510 W510 V510 N510 => ?_)
          refine own_iinc X510 hx hby d7_32 rfl (1 : Int32) rfl #[.val (.ref x0), .val (.int (4 : Int32)), .val (.ref x2), .val (.int (3 : Int32)), .val (.int (5 : Int32)), .val (.int (3 : Int32)), .val (.int y3)] rfl rfl ?_
          refine own_iinc X510 hx hby d7_35 rfl (1 : Int32) rfl #[.val (.ref x0), .val (.int (4 : Int32)), .val (.ref x2), .val (.int (4 : Int32)), .val (.int (5 : Int32)), .val (.int (3 : Int32)), .val (.int y3)] rfl rfl ?_
          refine own_iinc X510 hx hby d7_38 rfl (1 : Int32) rfl #[.val (.ref x0), .val (.int (4 : Int32)), .val (.ref x2), .val (.int (4 : Int32)), .val (.int (5 : Int32)), .val (.int (4 : Int32)), .val (.int y3)] rfl rfl ?_
          refine own_goto X510 hx hby d7_41 (pc' := 3) (by decide) ?_
          refine own_iload X510 hx hby d7_3 rfl rfl ?_
          refine own_iload X510 hx hby d7_5 rfl rfl ?_
          refine own_icmp_ge X510 hx hby d7_7 (pcY := 44) (pcN := 10) (by decide) rfl (fun (hc511 : 5 ≤ 4) => False.elim (by exact absurd hc511 (by decide))) (fun (hc511 : 4 < 5) => ?_)
          refine own_aloadN X510 hx hby d7_10 rfl rfl rfl ?_
          refine own_iloadN X510 hx hby d7_11 rfl rfl ?_
          have f512 := (f508.other W510 nx)
          refine own_caload X510 hx hby hZ y4 e510 f512 (by decide) rfl d7_12 rfl ?_
          refine own_istore X510 hx hby d7_13 rfl #[.val (.ref x0), .val (.int (4 : Int32)), .val (.ref x2), .val (.int (4 : Int32)), .val (.int (5 : Int32)), .val (.int (4 : Int32)), .val (.int y4)] rfl ?_
          refine own_iload X510 hx hby d7_15 rfl rfl ?_
          refine own_sipush X510 hx hby d7_17 rfl (255 : Int32) rfl ?_
          refine own_icmp_le X510 hx hby d7_20 (pcY := 26) (pcN := 23) (by decide) rfl (fun (hc513 : y4.toInt ≤ 255) => ?_) (fun (hc513 : 255 < y4.toInt) => ?_)
          · -- pc 20: t
            refine own_aloadN X510 hx hby d7_26 rfl rfl rfl ?_
            refine own_iloadN X510 hx hby d7_27 rfl rfl ?_
            refine own_iload X510 hx hby d7_28 rfl rfl ?_
            refine own_i2b X510 hx hby d7_30 rfl ?_
            refine own_bastore X510 hx hby hZ y4.toInt8.toInt32 (own_narb _) e510 V510 (by decide) 4 rfl (show 4 < 5 by decide) [(.int y0.toInt8.toInt32), (.int y1.toInt8.toInt32), (.int y2.toInt8.toInt32), (.int y3.toInt8.toInt32), (.int y4.toInt8.toInt32)] rfl (fits_nar_byte _) N510 gx d7_31 rfl (fun T514 h514 L514 X514 e514 W514 V514 N514 => ?_)
            refine own_iinc X514 hx hby d7_32 rfl (1 : Int32) rfl #[.val (.ref x0), .val (.int (5 : Int32)), .val (.ref x2), .val (.int (4 : Int32)), .val (.int (5 : Int32)), .val (.int (4 : Int32)), .val (.int y4)] rfl rfl ?_
            refine own_iinc X514 hx hby d7_35 rfl (1 : Int32) rfl #[.val (.ref x0), .val (.int (5 : Int32)), .val (.ref x2), .val (.int (5 : Int32)), .val (.int (5 : Int32)), .val (.int (4 : Int32)), .val (.int y4)] rfl rfl ?_
            refine own_iinc X514 hx hby d7_38 rfl (1 : Int32) rfl #[.val (.ref x0), .val (.int (5 : Int32)), .val (.ref x2), .val (.int (5 : Int32)), .val (.int (5 : Int32)), .val (.int (5 : Int32)), .val (.int y4)] rfl rfl ?_
            refine own_goto X514 hx hby d7_41 (pc' := 3) (by decide) ?_
            refine own_iload X514 hx hby d7_3 rfl rfl ?_
            refine own_iload X514 hx hby d7_5 rfl rfl ?_
            refine own_icmp_ge X514 hx hby d7_7 (pcY := 44) (pcN := 10) (by decide) rfl (fun (hc515 : 5 ≤ 5) => ?_) (fun (hc515 : 5 < 5) => False.elim (by exact absurd hc515 (by decide)))
            refine own_iload X514 hx hby d7_44 rfl rfl ?_
            refine own_ret X514 hx hby hret hlk d7_46 (.int (5 : Int32)) rfl (Or.inl ⟨rfl, by simp, _, rfl⟩) (by decide) (by decide) ?_
            rw [e514]
            have f516 := ((((((Keep.refl h0 [x2]).wr W498 (Or.inl (by simp))).wr W502 (Or.inl (by simp))).wr W506 (Or.inl (by simp))).wr W510 (Or.inl (by simp))).wr W514 (Or.inl (by simp)))
            exact ⟨N514, f516, Or.inl ⟨rfl, by omega, V514⟩⟩
          · -- pc 20: f
            refine own_iload X510 hx hby d7_23 rfl rfl ?_
            refine own_ret X510 hx hby hret hlk d7_25 (.int (4 : Int32)) rfl (Or.inl ⟨rfl, by simp, _, rfl⟩) (by decide) (by decide) ?_
            rw [e510]
            have f517 := (((((Keep.refl h0 [x2]).wr W498 (Or.inl (by simp))).wr W502 (Or.inl (by simp))).wr W506 (Or.inl (by simp))).wr W510 (Or.inl (by simp)))
            exact ⟨N510, f517, Or.inr (Or.inr (Or.inr (Or.inr (Or.inr ⟨rfl, by omega⟩))))⟩
        · -- pc 20: f
          refine own_iload X506 hx hby d7_23 rfl rfl ?_
          refine own_ret X506 hx hby hret hlk d7_25 (.int (3 : Int32)) rfl (Or.inl ⟨rfl, by simp, _, rfl⟩) (by decide) (by decide) ?_
          rw [e506]
          have f518 := ((((Keep.refl h0 [x2]).wr W498 (Or.inl (by simp))).wr W502 (Or.inl (by simp))).wr W506 (Or.inl (by simp)))
          exact ⟨N506, f518, Or.inr (Or.inr (Or.inr (Or.inr (Or.inl ⟨rfl, by omega⟩))))⟩
      · -- pc 20: f
        refine own_iload X502 hx hby d7_23 rfl rfl ?_
        refine own_ret X502 hx hby hret hlk d7_25 (.int (2 : Int32)) rfl (Or.inl ⟨rfl, by simp, _, rfl⟩) (by decide) (by decide) ?_
        rw [e502]
        have f519 := (((Keep.refl h0 [x2]).wr W498 (Or.inl (by simp))).wr W502 (Or.inl (by simp)))
        exact ⟨N502, f519, Or.inr (Or.inr (Or.inr (Or.inl ⟨rfl, by omega⟩)))⟩
    · -- pc 20: f
      refine own_iload X498 hx hby d7_23 rfl rfl ?_
      refine own_ret X498 hx hby hret hlk d7_25 (.int (1 : Int32)) rfl (Or.inl ⟨rfl, by simp, _, rfl⟩) (by decide) (by decide) ?_
      rw [e498]
      have f520 := ((Keep.refl h0 [x2]).wr W498 (Or.inl (by simp)))
      exact ⟨N498, f520, Or.inr (Or.inr (Or.inl ⟨rfl, by omega⟩))⟩
  · -- pc 20: f
    refine own_iload X0 hx hby d7_23 rfl rfl ?_
    refine own_ret X0 hx hby hret hlk d7_25 (.int (0 : Int32)) rfl (Or.inl ⟨rfl, by simp, _, rfl⟩) (by decide) (by decide) ?_
    rw [e0]
    exact ⟨N0, (Keep.refl h0 [x2]), Or.inr (Or.inl ⟨rfl, by omega⟩)⟩
set_option maxRecDepth 65536 in
set_option maxHeartbeats 40000000 in
theorem rmc1_1 (l : Launch) (Z : State) (a0 : Array Value) (hw : ∀ d ∈ tables_1, d.before a0 Z = true) (x0 : Addr) (h0 : Heap) (n0 : Nat) {ks : Int32} {fm : Value} (G : OwnGl Z ks fm) (O : Old Z n0 h0) {ka : ClassId} {y0 : Int32} (hr0 : 0 ≤ y0.toInt ∧ y0.toInt < 65536) (Va : Arv Z h0 x0 ka .char (1 : Int32) [(.int y0)] (.int 0)) :
    OwnMet l Z (⟨"java/lang/StringUTF16", "compress", "([CII)[B"⟩ : MethodName) jdk_52_method_16_code 6 (some (.array .byte)) [] ({ frames := 3, cells := 2, slots := 3, locals := 44 } : Room) #[(.ref x0), (.int (0 : Int32)), (.int (1 : Int32))] h0 (fun v h L => ∃ b k, v = some (.ref b) ∧ Fr n0 L ∧ Keep h0 h [] ∧ h0.size ≤ b ∧ n0 ≤ b ∧ (((y0.toInt ≤ 255) ∧ Arv Z h b k .byte (1 : Int32) [(.int y0.toInt8.toInt32)] (.int 0)) ∨ Arv Z h b k .byte (2 : Int32) [(.int (y0 >>> ((0 : Int32) &&& 31)).toInt8.toInt32), (.int (y0 >>> ((8 : Int32) &&& 31)).toInt8.toInt32)] (.int 0))) := by
  refine own_body (plainFor_of_name pn_5) (fun m => ef_c1_1 m x0) ?_
  intro p e s m below meth c s₁ X0 hx hby hml hown hnm hret hlk hZ e0
  replace hown : s.vm.findClass "java/lang/StringUTF16" = some m.cls := hown
  replace hml : c.maxLocals = 6 := hml
  have N0 := Fr.nil n0
  show Ends p.tables e below _ (s₁.setTop (mkF m 0 #[.val (.ref x0), .val (.int (0 : Int32)), .val (.int (1 : Int32)), .unset, .unset, .unset] []))
  have i255 : (255 : Int32).toInt = 255 := rfl
  show Ends p.tables e below _ (s₁.setTop (mkF m 0 #[.val (.ref x0), .val (.int (0 : Int32)), .val (.int (1 : Int32)), .unset, .unset, .unset] []))
  refine own_iloadN X0 hx hby d6_0 rfl rfl ?_
  refine own_newarray X0 hx hby hZ (aty := .byte) (hw _ tw_5) e0 (by decide) 1 (by decide) (by decide) (by decide) (by decide) .byte rfl [(.int (0 : Int32))] rfl d6_1 rfl (fun T521 h521 b521 k521 X521 e521 g521 E521 V521 => ?_)
  have ge_b521 : n0 ≤ b521 := own_ge O g521
  have sz_b521 : h0.size ≤ b521 := Nat.le_trans (Keep.refl h0 []).1 (Nat.le_of_eq g521.symm)
  have ne_x0_b521 : x0 ≠ b521 := own_lt Va.lt g521
  refine own_astoreN X521 hx hby d6_3 rfl #[.val (.ref x0), .val (.int (0 : Int32)), .val (.int (1 : Int32)), .val (.ref b521), .unset, .unset] rfl rfl ?_
  refine own_aloadN X521 hx hby d6_4 rfl rfl rfl ?_
  refine own_iloadN X521 hx hby d6_5 rfl rfl ?_
  refine own_aloadN X521 hx hby d6_6 rfl rfl rfl ?_
  refine own_iconst X521 hx hby d6_7 rfl (0 : Int32) rfl ?_
  refine own_iloadN X521 hx hby d6_8 rfl rfl ?_
  have f523 := (Va.ext E521)
  refine own_static X521 hx hby hZ (argsL := [(.ref x0), (.int (0 : Int32)), (.ref b521), (.int (0 : Int32)), (.int (1 : Int32))]) (rest := []) hown (hw _ tw_36) (hw _ tw_37) (hw _ tw_34) (hw _ tw_38) (by decide) (rmc2_1 l Z a0 hw x0 b521 h521 n0 ge_b521 ne_x0_b521 hr0 f523 V521) e521 (by rw [hml]; rfl) pd_13 rfl (by decide) (W := 0) (Nat.le_refl _) (by decide) (by decide) (by decide) d6_9 rfl rfl (fun v522 T522 L522 X522 hQ522 => ?_)
  rcases hQ522 with ⟨N522q, K522, (⟨rfl, al522, V522⟩ | ⟨rfl, gt522⟩)⟩
  · -- all
    show Ends p.tables e below _ (T522.setTop (mkF m 12 #[.val (.ref x0), .val (.int (0 : Int32)), .val (.int (1 : Int32)), .val (.ref b521), .unset, .unset] [(.int (1 : Int32))]))
    refine own_istore X522 hx hby d6_12 rfl #[.val (.ref x0), .val (.int (0 : Int32)), .val (.int (1 : Int32)), .val (.ref b521), .val (.int (1 : Int32)), .unset] rfl ?_
    refine own_iload X522 hx hby d6_14 rfl rfl ?_
    refine own_iloadN X522 hx hby d6_16 rfl rfl ?_
    refine own_icmp_eq X522 hx hby d6_17 (pcY := 57) (pcN := 20) (by decide) rfl (fun (hc524 : (1 : Int32) = (1 : Int32)) => ?_) (fun (hc524 : ¬ (1 : Int32) = (1 : Int32)) => False.elim (by exact absurd hc524 (by decide)))
    refine own_aloadN X522 hx hby d6_57 rfl rfl rfl ?_
    refine own_ret X522 hx hby hret hlk d6_58 (.ref b521) rfl (Or.inr (Or.inr ⟨rfl, rfl, rfl⟩)) (by decide) (by decide) ?_
    have f525 := (((Keep.refl h0 []).ext E521).trans K522 (allS (Or.inr sz_b521) all0))
    exact ⟨b521, _, rfl, (Fr.app N0 N522q), f525, sz_b521, ge_b521, Or.inl ⟨al522, V522⟩⟩
  · -- at 0
    show Ends p.tables e below _ (T522.setTop (mkF m 12 #[.val (.ref x0), .val (.int (0 : Int32)), .val (.int (1 : Int32)), .val (.ref b521), .unset, .unset] [(.int (0 : Int32))]))
    refine own_istore X522 hx hby d6_12 rfl #[.val (.ref x0), .val (.int (0 : Int32)), .val (.int (1 : Int32)), .val (.ref b521), .val (.int (0 : Int32)), .unset] rfl ?_
    refine own_iload X522 hx hby d6_14 rfl rfl ?_
    refine own_iloadN X522 hx hby d6_16 rfl rfl ?_
    refine own_icmp_eq X522 hx hby d6_17 (pcY := 57) (pcN := 20) (by decide) rfl (fun (hc526 : (0 : Int32) = (1 : Int32)) => False.elim (by exact absurd hc526 (by decide))) (fun (hc526 : ¬ (0 : Int32) = (1 : Int32)) => ?_)
    refine own_aloadN X522 hx hby d6_20 rfl rfl rfl ?_
    refine own_iloadN X522 hx hby d6_21 rfl rfl ?_
    refine own_iloadN X522 hx hby d6_22 rfl rfl ?_
    have f528 := ((O.ext E521).keep K522 (allS ge_b521 all0))
    have f529 := (f523.keep K522 (ninS ne_x0_b521 nin0))
    have f530 := (((Keep.refl h0 []).ext E521).trans K522 (allS (Or.inr sz_b521) all0))
    refine own_static X522 hx hby hZ (argsL := [(.ref x0), (.int (0 : Int32)), (.int (1 : Int32))]) (rest := []) hown (hw _ tw_85) (hw _ tw_86) (hw _ tw_34) (hw _ tw_87) (by decide) (rmtob_1 l Z a0 hw x0 T522.heap n0 G f528 hr0 f529) rfl (by rw [hml]; rfl) pd_14 rfl (by decide) (W := 0) (Nat.le_refl _) (by decide) (by decide) (by decide) d6_23 rfl rfl (fun v527 T527 L527 X527 hQ527 => ?_)
    obtain ⟨b527, k527, rfl, N527q, K527, sq527, gq527, V527⟩ := hQ527
    have ge_b527 := gq527
    have sz_b527 : h0.size ≤ b527 := Nat.le_trans f530.1 sq527
    show Ends p.tables e below _ (T527.setTop (mkF m 26 #[.val (.ref x0), .val (.int (0 : Int32)), .val (.int (1 : Int32)), .val (.ref b521), .val (.int (0 : Int32)), .unset] [(.ref b527)]))
    refine own_astore X527 hx hby d6_26 rfl #[.val (.ref x0), .val (.int (0 : Int32)), .val (.int (1 : Int32)), .val (.ref b521), .val (.int (0 : Int32)), .val (.ref b527)] rfl rfl ?_
    refine own_aload X527 hx hby d6_28 rfl rfl rfl ?_
    refine own_iload X527 hx hby d6_30 rfl rfl ?_
    have f532 := (f528.keep K527 all0)
    refine own_static X527 hx hby hZ (argsL := [(.ref b527), (.int (0 : Int32))]) (rest := []) hown (hw _ tw_101) (hw _ tw_102) (hw _ tw_34) (hw _ tw_103) (by decide) (rmugc l Z a0 hw b527 (0 : Int32) T527.heap G (f532).2 V527 (by decide) (by decide) rfl rfl (own_utf hr0) hr0) rfl (by rw [hml]; rfl) pd_5 rfl (by decide) (W := 0) (Nat.le_refl _) (by decide) (by decide) (by decide) d6_32 rfl rfl (fun v531 T531 L531 X531 hQ531 => ?_)
    obtain ⟨rfl, rfl, e531⟩ := hQ531
    show Ends p.tables e below _ (T531.setTop (mkF m 35 #[.val (.ref x0), .val (.int (0 : Int32)), .val (.int (1 : Int32)), .val (.ref b521), .val (.int (0 : Int32)), .val (.ref b527)] [(.int y0)]))
    refine own_sipush X531 hx hby d6_35 rfl (255 : Int32) rfl ?_
    refine own_icmp_gt X531 hx hby d6_38 (pcY := 54) (pcN := 41) (by decide) rfl (fun (hc533 : 255 < y0.toInt) => ?_) (fun (hc533 : y0.toInt ≤ 255) => False.elim (by have q := gt522; omega))
    refine own_aload X531 hx hby d6_54 rfl rfl rfl ?_
    refine own_ret X531 hx hby hret hlk d6_56 (.ref b527) rfl (Or.inr (Or.inr ⟨rfl, rfl, rfl⟩)) (by decide) (by decide) ?_
    rw [e531]
    have f534 := (f530.trans K527 all0)
    exact ⟨b527, _, rfl, (Fr.app (Fr.app (Fr.app N0 N522q) N527q) (Fr.nil _)), f534, sz_b527, ge_b527, Or.inr V527⟩
set_option maxRecDepth 65536 in
set_option maxHeartbeats 40000000 in
theorem rmc1_2 (l : Launch) (Z : State) (a0 : Array Value) (hw : ∀ d ∈ tables_1, d.before a0 Z = true) (x0 : Addr) (h0 : Heap) (n0 : Nat) {ks : Int32} {fm : Value} (G : OwnGl Z ks fm) (O : Old Z n0 h0) {ka : ClassId} {y0 y1 : Int32} (hr0 : 0 ≤ y0.toInt ∧ y0.toInt < 65536) (hr1 : 0 ≤ y1.toInt ∧ y1.toInt < 65536) (Va : Arv Z h0 x0 ka .char (2 : Int32) [(.int y0), (.int y1)] (.int 0)) :
    OwnMet l Z (⟨"java/lang/StringUTF16", "compress", "([CII)[B"⟩ : MethodName) jdk_52_method_16_code 6 (some (.array .byte)) [] ({ frames := 3, cells := 2, slots := 6, locals := 44 } : Room) #[(.ref x0), (.int (0 : Int32)), (.int (2 : Int32))] h0 (fun v h L => ∃ b k, v = some (.ref b) ∧ Fr n0 L ∧ Keep h0 h [] ∧ h0.size ≤ b ∧ n0 ≤ b ∧ (((y0.toInt ≤ 255 ∧ y1.toInt ≤ 255) ∧ Arv Z h b k .byte (2 : Int32) [(.int y0.toInt8.toInt32), (.int y1.toInt8.toInt32)] (.int 0)) ∨ Arv Z h b k .byte (4 : Int32) [(.int (y0 >>> ((0 : Int32) &&& 31)).toInt8.toInt32), (.int (y0 >>> ((8 : Int32) &&& 31)).toInt8.toInt32), (.int (y1 >>> ((0 : Int32) &&& 31)).toInt8.toInt32), (.int (y1 >>> ((8 : Int32) &&& 31)).toInt8.toInt32)] (.int 0))) := by
  refine own_body (plainFor_of_name pn_5) (fun m => ef_c1_2 m x0) ?_
  intro p e s m below meth c s₁ X0 hx hby hml hown hnm hret hlk hZ e0
  replace hown : s.vm.findClass "java/lang/StringUTF16" = some m.cls := hown
  replace hml : c.maxLocals = 6 := hml
  have N0 := Fr.nil n0
  show Ends p.tables e below _ (s₁.setTop (mkF m 0 #[.val (.ref x0), .val (.int (0 : Int32)), .val (.int (2 : Int32)), .unset, .unset, .unset] []))
  have i255 : (255 : Int32).toInt = 255 := rfl
  show Ends p.tables e below _ (s₁.setTop (mkF m 0 #[.val (.ref x0), .val (.int (0 : Int32)), .val (.int (2 : Int32)), .unset, .unset, .unset] []))
  refine own_iloadN X0 hx hby d6_0 rfl rfl ?_
  refine own_newarray X0 hx hby hZ (aty := .byte) (hw _ tw_5) e0 (by decide) 2 (by decide) (by decide) (by decide) (by decide) .byte rfl [(.int (0 : Int32)), (.int (0 : Int32))] rfl d6_1 rfl (fun T535 h535 b535 k535 X535 e535 g535 E535 V535 => ?_)
  have ge_b535 : n0 ≤ b535 := own_ge O g535
  have sz_b535 : h0.size ≤ b535 := Nat.le_trans (Keep.refl h0 []).1 (Nat.le_of_eq g535.symm)
  have ne_x0_b535 : x0 ≠ b535 := own_lt Va.lt g535
  refine own_astoreN X535 hx hby d6_3 rfl #[.val (.ref x0), .val (.int (0 : Int32)), .val (.int (2 : Int32)), .val (.ref b535), .unset, .unset] rfl rfl ?_
  refine own_aloadN X535 hx hby d6_4 rfl rfl rfl ?_
  refine own_iloadN X535 hx hby d6_5 rfl rfl ?_
  refine own_aloadN X535 hx hby d6_6 rfl rfl rfl ?_
  refine own_iconst X535 hx hby d6_7 rfl (0 : Int32) rfl ?_
  refine own_iloadN X535 hx hby d6_8 rfl rfl ?_
  have f537 := (Va.ext E535)
  refine own_static X535 hx hby hZ (argsL := [(.ref x0), (.int (0 : Int32)), (.ref b535), (.int (0 : Int32)), (.int (2 : Int32))]) (rest := []) hown (hw _ tw_36) (hw _ tw_37) (hw _ tw_34) (hw _ tw_38) (by decide) (rmc2_2 l Z a0 hw x0 b535 h535 n0 ge_b535 ne_x0_b535 hr0 hr1 f537 V535) e535 (by rw [hml]; rfl) pd_13 rfl (by decide) (W := 0) (Nat.le_refl _) (by decide) (by decide) (by decide) d6_9 rfl rfl (fun v536 T536 L536 X536 hQ536 => ?_)
  rcases hQ536 with ⟨N536q, K536, (⟨rfl, al536, V536⟩ | ⟨rfl, gt536⟩ | ⟨rfl, gt536⟩)⟩
  · -- all
    show Ends p.tables e below _ (T536.setTop (mkF m 12 #[.val (.ref x0), .val (.int (0 : Int32)), .val (.int (2 : Int32)), .val (.ref b535), .unset, .unset] [(.int (2 : Int32))]))
    refine own_istore X536 hx hby d6_12 rfl #[.val (.ref x0), .val (.int (0 : Int32)), .val (.int (2 : Int32)), .val (.ref b535), .val (.int (2 : Int32)), .unset] rfl ?_
    refine own_iload X536 hx hby d6_14 rfl rfl ?_
    refine own_iloadN X536 hx hby d6_16 rfl rfl ?_
    refine own_icmp_eq X536 hx hby d6_17 (pcY := 57) (pcN := 20) (by decide) rfl (fun (hc538 : (2 : Int32) = (2 : Int32)) => ?_) (fun (hc538 : ¬ (2 : Int32) = (2 : Int32)) => False.elim (by exact absurd hc538 (by decide)))
    refine own_aloadN X536 hx hby d6_57 rfl rfl rfl ?_
    refine own_ret X536 hx hby hret hlk d6_58 (.ref b535) rfl (Or.inr (Or.inr ⟨rfl, rfl, rfl⟩)) (by decide) (by decide) ?_
    have f539 := (((Keep.refl h0 []).ext E535).trans K536 (allS (Or.inr sz_b535) all0))
    exact ⟨b535, _, rfl, (Fr.app N0 N536q), f539, sz_b535, ge_b535, Or.inl ⟨al536, V536⟩⟩
  · -- at 0
    show Ends p.tables e below _ (T536.setTop (mkF m 12 #[.val (.ref x0), .val (.int (0 : Int32)), .val (.int (2 : Int32)), .val (.ref b535), .unset, .unset] [(.int (0 : Int32))]))
    refine own_istore X536 hx hby d6_12 rfl #[.val (.ref x0), .val (.int (0 : Int32)), .val (.int (2 : Int32)), .val (.ref b535), .val (.int (0 : Int32)), .unset] rfl ?_
    refine own_iload X536 hx hby d6_14 rfl rfl ?_
    refine own_iloadN X536 hx hby d6_16 rfl rfl ?_
    refine own_icmp_eq X536 hx hby d6_17 (pcY := 57) (pcN := 20) (by decide) rfl (fun (hc540 : (0 : Int32) = (2 : Int32)) => False.elim (by exact absurd hc540 (by decide))) (fun (hc540 : ¬ (0 : Int32) = (2 : Int32)) => ?_)
    refine own_aloadN X536 hx hby d6_20 rfl rfl rfl ?_
    refine own_iloadN X536 hx hby d6_21 rfl rfl ?_
    refine own_iloadN X536 hx hby d6_22 rfl rfl ?_
    have f542 := ((O.ext E535).keep K536 (allS ge_b535 all0))
    have f543 := (f537.keep K536 (ninS ne_x0_b535 nin0))
    have f544 := (((Keep.refl h0 []).ext E535).trans K536 (allS (Or.inr sz_b535) all0))
    refine own_static X536 hx hby hZ (argsL := [(.ref x0), (.int (0 : Int32)), (.int (2 : Int32))]) (rest := []) hown (hw _ tw_85) (hw _ tw_86) (hw _ tw_34) (hw _ tw_87) (by decide) (rmtob_2 l Z a0 hw x0 T536.heap n0 G f542 hr0 hr1 f543) rfl (by rw [hml]; rfl) pd_14 rfl (by decide) (W := 0) (Nat.le_refl _) (by decide) (by decide) (by decide) d6_23 rfl rfl (fun v541 T541 L541 X541 hQ541 => ?_)
    obtain ⟨b541, k541, rfl, N541q, K541, sq541, gq541, V541⟩ := hQ541
    have ge_b541 := gq541
    have sz_b541 : h0.size ≤ b541 := Nat.le_trans f544.1 sq541
    show Ends p.tables e below _ (T541.setTop (mkF m 26 #[.val (.ref x0), .val (.int (0 : Int32)), .val (.int (2 : Int32)), .val (.ref b535), .val (.int (0 : Int32)), .unset] [(.ref b541)]))
    refine own_astore X541 hx hby d6_26 rfl #[.val (.ref x0), .val (.int (0 : Int32)), .val (.int (2 : Int32)), .val (.ref b535), .val (.int (0 : Int32)), .val (.ref b541)] rfl rfl ?_
    refine own_aload X541 hx hby d6_28 rfl rfl rfl ?_
    refine own_iload X541 hx hby d6_30 rfl rfl ?_
    have f546 := (f542.keep K541 all0)
    refine own_static X541 hx hby hZ (argsL := [(.ref b541), (.int (0 : Int32))]) (rest := []) hown (hw _ tw_101) (hw _ tw_102) (hw _ tw_34) (hw _ tw_103) (by decide) (rmugc l Z a0 hw b541 (0 : Int32) T541.heap G (f546).2 V541 (by decide) (by decide) rfl rfl (own_utf hr0) hr0) rfl (by rw [hml]; rfl) pd_5 rfl (by decide) (W := 0) (Nat.le_refl _) (by decide) (by decide) (by decide) d6_32 rfl rfl (fun v545 T545 L545 X545 hQ545 => ?_)
    obtain ⟨rfl, rfl, e545⟩ := hQ545
    show Ends p.tables e below _ (T545.setTop (mkF m 35 #[.val (.ref x0), .val (.int (0 : Int32)), .val (.int (2 : Int32)), .val (.ref b535), .val (.int (0 : Int32)), .val (.ref b541)] [(.int y0)]))
    refine own_sipush X545 hx hby d6_35 rfl (255 : Int32) rfl ?_
    refine own_icmp_gt X545 hx hby d6_38 (pcY := 54) (pcN := 41) (by decide) rfl (fun (hc547 : 255 < y0.toInt) => ?_) (fun (hc547 : y0.toInt ≤ 255) => False.elim (by have q := gt536; omega))
    refine own_aload X545 hx hby d6_54 rfl rfl rfl ?_
    refine own_ret X545 hx hby hret hlk d6_56 (.ref b541) rfl (Or.inr (Or.inr ⟨rfl, rfl, rfl⟩)) (by decide) (by decide) ?_
    rw [e545]
    have f548 := (f544.trans K541 all0)
    exact ⟨b541, _, rfl, (Fr.app (Fr.app (Fr.app N0 N536q) N541q) (Fr.nil _)), f548, sz_b541, ge_b541, Or.inr V541⟩
  · -- at 1
    show Ends p.tables e below _ (T536.setTop (mkF m 12 #[.val (.ref x0), .val (.int (0 : Int32)), .val (.int (2 : Int32)), .val (.ref b535), .unset, .unset] [(.int (1 : Int32))]))
    refine own_istore X536 hx hby d6_12 rfl #[.val (.ref x0), .val (.int (0 : Int32)), .val (.int (2 : Int32)), .val (.ref b535), .val (.int (1 : Int32)), .unset] rfl ?_
    refine own_iload X536 hx hby d6_14 rfl rfl ?_
    refine own_iloadN X536 hx hby d6_16 rfl rfl ?_
    refine own_icmp_eq X536 hx hby d6_17 (pcY := 57) (pcN := 20) (by decide) rfl (fun (hc549 : (1 : Int32) = (2 : Int32)) => False.elim (by exact absurd hc549 (by decide))) (fun (hc549 : ¬ (1 : Int32) = (2 : Int32)) => ?_)
    refine own_aloadN X536 hx hby d6_20 rfl rfl rfl ?_
    refine own_iloadN X536 hx hby d6_21 rfl rfl ?_
    refine own_iloadN X536 hx hby d6_22 rfl rfl ?_
    have f551 := ((O.ext E535).keep K536 (allS ge_b535 all0))
    have f552 := (f537.keep K536 (ninS ne_x0_b535 nin0))
    have f553 := (((Keep.refl h0 []).ext E535).trans K536 (allS (Or.inr sz_b535) all0))
    refine own_static X536 hx hby hZ (argsL := [(.ref x0), (.int (0 : Int32)), (.int (2 : Int32))]) (rest := []) hown (hw _ tw_85) (hw _ tw_86) (hw _ tw_34) (hw _ tw_87) (by decide) (rmtob_2 l Z a0 hw x0 T536.heap n0 G f551 hr0 hr1 f552) rfl (by rw [hml]; rfl) pd_14 rfl (by decide) (W := 0) (Nat.le_refl _) (by decide) (by decide) (by decide) d6_23 rfl rfl (fun v550 T550 L550 X550 hQ550 => ?_)
    obtain ⟨b550, k550, rfl, N550q, K550, sq550, gq550, V550⟩ := hQ550
    have ge_b550 := gq550
    have sz_b550 : h0.size ≤ b550 := Nat.le_trans f553.1 sq550
    show Ends p.tables e below _ (T550.setTop (mkF m 26 #[.val (.ref x0), .val (.int (0 : Int32)), .val (.int (2 : Int32)), .val (.ref b535), .val (.int (1 : Int32)), .unset] [(.ref b550)]))
    refine own_astore X550 hx hby d6_26 rfl #[.val (.ref x0), .val (.int (0 : Int32)), .val (.int (2 : Int32)), .val (.ref b535), .val (.int (1 : Int32)), .val (.ref b550)] rfl rfl ?_
    refine own_aload X550 hx hby d6_28 rfl rfl rfl ?_
    refine own_iload X550 hx hby d6_30 rfl rfl ?_
    have f555 := (f551.keep K550 all0)
    refine own_static X550 hx hby hZ (argsL := [(.ref b550), (.int (1 : Int32))]) (rest := []) hown (hw _ tw_101) (hw _ tw_102) (hw _ tw_34) (hw _ tw_103) (by decide) (rmugc l Z a0 hw b550 (1 : Int32) T550.heap G (f555).2 V550 (by decide) (by decide) rfl rfl (own_utf hr1) hr1) rfl (by rw [hml]; rfl) pd_5 rfl (by decide) (W := 0) (Nat.le_refl _) (by decide) (by decide) (by decide) d6_32 rfl rfl (fun v554 T554 L554 X554 hQ554 => ?_)
    obtain ⟨rfl, rfl, e554⟩ := hQ554
    show Ends p.tables e below _ (T554.setTop (mkF m 35 #[.val (.ref x0), .val (.int (0 : Int32)), .val (.int (2 : Int32)), .val (.ref b535), .val (.int (1 : Int32)), .val (.ref b550)] [(.int y1)]))
    refine own_sipush X554 hx hby d6_35 rfl (255 : Int32) rfl ?_
    refine own_icmp_gt X554 hx hby d6_38 (pcY := 54) (pcN := 41) (by decide) rfl (fun (hc556 : 255 < y1.toInt) => ?_) (fun (hc556 : y1.toInt ≤ 255) => False.elim (by have q := gt536; omega))
    refine own_aload X554 hx hby d6_54 rfl rfl rfl ?_
    refine own_ret X554 hx hby hret hlk d6_56 (.ref b550) rfl (Or.inr (Or.inr ⟨rfl, rfl, rfl⟩)) (by decide) (by decide) ?_
    rw [e554]
    have f557 := (f553.trans K550 all0)
    exact ⟨b550, _, rfl, (Fr.app (Fr.app (Fr.app N0 N536q) N550q) (Fr.nil _)), f557, sz_b550, ge_b550, Or.inr V550⟩
set_option maxRecDepth 65536 in
set_option maxHeartbeats 40000000 in
theorem rmc1_3 (l : Launch) (Z : State) (a0 : Array Value) (hw : ∀ d ∈ tables_1, d.before a0 Z = true) (x0 : Addr) (h0 : Heap) (n0 : Nat) {ks : Int32} {fm : Value} (G : OwnGl Z ks fm) (O : Old Z n0 h0) {ka : ClassId} {y0 y1 y2 : Int32} (hr0 : 0 ≤ y0.toInt ∧ y0.toInt < 65536) (hr1 : 0 ≤ y1.toInt ∧ y1.toInt < 65536) (hr2 : 0 ≤ y2.toInt ∧ y2.toInt < 65536) (Va : Arv Z h0 x0 ka .char (3 : Int32) [(.int y0), (.int y1), (.int y2)] (.int 0)) :
    OwnMet l Z (⟨"java/lang/StringUTF16", "compress", "([CII)[B"⟩ : MethodName) jdk_52_method_16_code 6 (some (.array .byte)) [] ({ frames := 3, cells := 2, slots := 9, locals := 44 } : Room) #[(.ref x0), (.int (0 : Int32)), (.int (3 : Int32))] h0 (fun v h L => ∃ b k, v = some (.ref b) ∧ Fr n0 L ∧ Keep h0 h [] ∧ h0.size ≤ b ∧ n0 ≤ b ∧ (((y0.toInt ≤ 255 ∧ y1.toInt ≤ 255 ∧ y2.toInt ≤ 255) ∧ Arv Z h b k .byte (3 : Int32) [(.int y0.toInt8.toInt32), (.int y1.toInt8.toInt32), (.int y2.toInt8.toInt32)] (.int 0)) ∨ Arv Z h b k .byte (6 : Int32) [(.int (y0 >>> ((0 : Int32) &&& 31)).toInt8.toInt32), (.int (y0 >>> ((8 : Int32) &&& 31)).toInt8.toInt32), (.int (y1 >>> ((0 : Int32) &&& 31)).toInt8.toInt32), (.int (y1 >>> ((8 : Int32) &&& 31)).toInt8.toInt32), (.int (y2 >>> ((0 : Int32) &&& 31)).toInt8.toInt32), (.int (y2 >>> ((8 : Int32) &&& 31)).toInt8.toInt32)] (.int 0))) := by
  refine own_body (plainFor_of_name pn_5) (fun m => ef_c1_3 m x0) ?_
  intro p e s m below meth c s₁ X0 hx hby hml hown hnm hret hlk hZ e0
  replace hown : s.vm.findClass "java/lang/StringUTF16" = some m.cls := hown
  replace hml : c.maxLocals = 6 := hml
  have N0 := Fr.nil n0
  show Ends p.tables e below _ (s₁.setTop (mkF m 0 #[.val (.ref x0), .val (.int (0 : Int32)), .val (.int (3 : Int32)), .unset, .unset, .unset] []))
  have i255 : (255 : Int32).toInt = 255 := rfl
  show Ends p.tables e below _ (s₁.setTop (mkF m 0 #[.val (.ref x0), .val (.int (0 : Int32)), .val (.int (3 : Int32)), .unset, .unset, .unset] []))
  refine own_iloadN X0 hx hby d6_0 rfl rfl ?_
  refine own_newarray X0 hx hby hZ (aty := .byte) (hw _ tw_5) e0 (by decide) 3 (by decide) (by decide) (by decide) (by decide) .byte rfl [(.int (0 : Int32)), (.int (0 : Int32)), (.int (0 : Int32))] rfl d6_1 rfl (fun T558 h558 b558 k558 X558 e558 g558 E558 V558 => ?_)
  have ge_b558 : n0 ≤ b558 := own_ge O g558
  have sz_b558 : h0.size ≤ b558 := Nat.le_trans (Keep.refl h0 []).1 (Nat.le_of_eq g558.symm)
  have ne_x0_b558 : x0 ≠ b558 := own_lt Va.lt g558
  refine own_astoreN X558 hx hby d6_3 rfl #[.val (.ref x0), .val (.int (0 : Int32)), .val (.int (3 : Int32)), .val (.ref b558), .unset, .unset] rfl rfl ?_
  refine own_aloadN X558 hx hby d6_4 rfl rfl rfl ?_
  refine own_iloadN X558 hx hby d6_5 rfl rfl ?_
  refine own_aloadN X558 hx hby d6_6 rfl rfl rfl ?_
  refine own_iconst X558 hx hby d6_7 rfl (0 : Int32) rfl ?_
  refine own_iloadN X558 hx hby d6_8 rfl rfl ?_
  have f560 := (Va.ext E558)
  refine own_static X558 hx hby hZ (argsL := [(.ref x0), (.int (0 : Int32)), (.ref b558), (.int (0 : Int32)), (.int (3 : Int32))]) (rest := []) hown (hw _ tw_36) (hw _ tw_37) (hw _ tw_34) (hw _ tw_38) (by decide) (rmc2_3 l Z a0 hw x0 b558 h558 n0 ge_b558 ne_x0_b558 hr0 hr1 hr2 f560 V558) e558 (by rw [hml]; rfl) pd_13 rfl (by decide) (W := 0) (Nat.le_refl _) (by decide) (by decide) (by decide) d6_9 rfl rfl (fun v559 T559 L559 X559 hQ559 => ?_)
  rcases hQ559 with ⟨N559q, K559, (⟨rfl, al559, V559⟩ | ⟨rfl, gt559⟩ | ⟨rfl, gt559⟩ | ⟨rfl, gt559⟩)⟩
  · -- all
    show Ends p.tables e below _ (T559.setTop (mkF m 12 #[.val (.ref x0), .val (.int (0 : Int32)), .val (.int (3 : Int32)), .val (.ref b558), .unset, .unset] [(.int (3 : Int32))]))
    refine own_istore X559 hx hby d6_12 rfl #[.val (.ref x0), .val (.int (0 : Int32)), .val (.int (3 : Int32)), .val (.ref b558), .val (.int (3 : Int32)), .unset] rfl ?_
    refine own_iload X559 hx hby d6_14 rfl rfl ?_
    refine own_iloadN X559 hx hby d6_16 rfl rfl ?_
    refine own_icmp_eq X559 hx hby d6_17 (pcY := 57) (pcN := 20) (by decide) rfl (fun (hc561 : (3 : Int32) = (3 : Int32)) => ?_) (fun (hc561 : ¬ (3 : Int32) = (3 : Int32)) => False.elim (by exact absurd hc561 (by decide)))
    refine own_aloadN X559 hx hby d6_57 rfl rfl rfl ?_
    refine own_ret X559 hx hby hret hlk d6_58 (.ref b558) rfl (Or.inr (Or.inr ⟨rfl, rfl, rfl⟩)) (by decide) (by decide) ?_
    have f562 := (((Keep.refl h0 []).ext E558).trans K559 (allS (Or.inr sz_b558) all0))
    exact ⟨b558, _, rfl, (Fr.app N0 N559q), f562, sz_b558, ge_b558, Or.inl ⟨al559, V559⟩⟩
  · -- at 0
    show Ends p.tables e below _ (T559.setTop (mkF m 12 #[.val (.ref x0), .val (.int (0 : Int32)), .val (.int (3 : Int32)), .val (.ref b558), .unset, .unset] [(.int (0 : Int32))]))
    refine own_istore X559 hx hby d6_12 rfl #[.val (.ref x0), .val (.int (0 : Int32)), .val (.int (3 : Int32)), .val (.ref b558), .val (.int (0 : Int32)), .unset] rfl ?_
    refine own_iload X559 hx hby d6_14 rfl rfl ?_
    refine own_iloadN X559 hx hby d6_16 rfl rfl ?_
    refine own_icmp_eq X559 hx hby d6_17 (pcY := 57) (pcN := 20) (by decide) rfl (fun (hc563 : (0 : Int32) = (3 : Int32)) => False.elim (by exact absurd hc563 (by decide))) (fun (hc563 : ¬ (0 : Int32) = (3 : Int32)) => ?_)
    refine own_aloadN X559 hx hby d6_20 rfl rfl rfl ?_
    refine own_iloadN X559 hx hby d6_21 rfl rfl ?_
    refine own_iloadN X559 hx hby d6_22 rfl rfl ?_
    have f565 := ((O.ext E558).keep K559 (allS ge_b558 all0))
    have f566 := (f560.keep K559 (ninS ne_x0_b558 nin0))
    have f567 := (((Keep.refl h0 []).ext E558).trans K559 (allS (Or.inr sz_b558) all0))
    refine own_static X559 hx hby hZ (argsL := [(.ref x0), (.int (0 : Int32)), (.int (3 : Int32))]) (rest := []) hown (hw _ tw_85) (hw _ tw_86) (hw _ tw_34) (hw _ tw_87) (by decide) (rmtob_3 l Z a0 hw x0 T559.heap n0 G f565 hr0 hr1 hr2 f566) rfl (by rw [hml]; rfl) pd_14 rfl (by decide) (W := 0) (Nat.le_refl _) (by decide) (by decide) (by decide) d6_23 rfl rfl (fun v564 T564 L564 X564 hQ564 => ?_)
    obtain ⟨b564, k564, rfl, N564q, K564, sq564, gq564, V564⟩ := hQ564
    have ge_b564 := gq564
    have sz_b564 : h0.size ≤ b564 := Nat.le_trans f567.1 sq564
    show Ends p.tables e below _ (T564.setTop (mkF m 26 #[.val (.ref x0), .val (.int (0 : Int32)), .val (.int (3 : Int32)), .val (.ref b558), .val (.int (0 : Int32)), .unset] [(.ref b564)]))
    refine own_astore X564 hx hby d6_26 rfl #[.val (.ref x0), .val (.int (0 : Int32)), .val (.int (3 : Int32)), .val (.ref b558), .val (.int (0 : Int32)), .val (.ref b564)] rfl rfl ?_
    refine own_aload X564 hx hby d6_28 rfl rfl rfl ?_
    refine own_iload X564 hx hby d6_30 rfl rfl ?_
    have f569 := (f565.keep K564 all0)
    refine own_static X564 hx hby hZ (argsL := [(.ref b564), (.int (0 : Int32))]) (rest := []) hown (hw _ tw_101) (hw _ tw_102) (hw _ tw_34) (hw _ tw_103) (by decide) (rmugc l Z a0 hw b564 (0 : Int32) T564.heap G (f569).2 V564 (by decide) (by decide) rfl rfl (own_utf hr0) hr0) rfl (by rw [hml]; rfl) pd_5 rfl (by decide) (W := 0) (Nat.le_refl _) (by decide) (by decide) (by decide) d6_32 rfl rfl (fun v568 T568 L568 X568 hQ568 => ?_)
    obtain ⟨rfl, rfl, e568⟩ := hQ568
    show Ends p.tables e below _ (T568.setTop (mkF m 35 #[.val (.ref x0), .val (.int (0 : Int32)), .val (.int (3 : Int32)), .val (.ref b558), .val (.int (0 : Int32)), .val (.ref b564)] [(.int y0)]))
    refine own_sipush X568 hx hby d6_35 rfl (255 : Int32) rfl ?_
    refine own_icmp_gt X568 hx hby d6_38 (pcY := 54) (pcN := 41) (by decide) rfl (fun (hc570 : 255 < y0.toInt) => ?_) (fun (hc570 : y0.toInt ≤ 255) => False.elim (by have q := gt559; omega))
    refine own_aload X568 hx hby d6_54 rfl rfl rfl ?_
    refine own_ret X568 hx hby hret hlk d6_56 (.ref b564) rfl (Or.inr (Or.inr ⟨rfl, rfl, rfl⟩)) (by decide) (by decide) ?_
    rw [e568]
    have f571 := (f567.trans K564 all0)
    exact ⟨b564, _, rfl, (Fr.app (Fr.app (Fr.app N0 N559q) N564q) (Fr.nil _)), f571, sz_b564, ge_b564, Or.inr V564⟩
  · -- at 1
    show Ends p.tables e below _ (T559.setTop (mkF m 12 #[.val (.ref x0), .val (.int (0 : Int32)), .val (.int (3 : Int32)), .val (.ref b558), .unset, .unset] [(.int (1 : Int32))]))
    refine own_istore X559 hx hby d6_12 rfl #[.val (.ref x0), .val (.int (0 : Int32)), .val (.int (3 : Int32)), .val (.ref b558), .val (.int (1 : Int32)), .unset] rfl ?_
    refine own_iload X559 hx hby d6_14 rfl rfl ?_
    refine own_iloadN X559 hx hby d6_16 rfl rfl ?_
    refine own_icmp_eq X559 hx hby d6_17 (pcY := 57) (pcN := 20) (by decide) rfl (fun (hc572 : (1 : Int32) = (3 : Int32)) => False.elim (by exact absurd hc572 (by decide))) (fun (hc572 : ¬ (1 : Int32) = (3 : Int32)) => ?_)
    refine own_aloadN X559 hx hby d6_20 rfl rfl rfl ?_
    refine own_iloadN X559 hx hby d6_21 rfl rfl ?_
    refine own_iloadN X559 hx hby d6_22 rfl rfl ?_
    have f574 := ((O.ext E558).keep K559 (allS ge_b558 all0))
    have f575 := (f560.keep K559 (ninS ne_x0_b558 nin0))
    have f576 := (((Keep.refl h0 []).ext E558).trans K559 (allS (Or.inr sz_b558) all0))
    refine own_static X559 hx hby hZ (argsL := [(.ref x0), (.int (0 : Int32)), (.int (3 : Int32))]) (rest := []) hown (hw _ tw_85) (hw _ tw_86) (hw _ tw_34) (hw _ tw_87) (by decide) (rmtob_3 l Z a0 hw x0 T559.heap n0 G f574 hr0 hr1 hr2 f575) rfl (by rw [hml]; rfl) pd_14 rfl (by decide) (W := 0) (Nat.le_refl _) (by decide) (by decide) (by decide) d6_23 rfl rfl (fun v573 T573 L573 X573 hQ573 => ?_)
    obtain ⟨b573, k573, rfl, N573q, K573, sq573, gq573, V573⟩ := hQ573
    have ge_b573 := gq573
    have sz_b573 : h0.size ≤ b573 := Nat.le_trans f576.1 sq573
    show Ends p.tables e below _ (T573.setTop (mkF m 26 #[.val (.ref x0), .val (.int (0 : Int32)), .val (.int (3 : Int32)), .val (.ref b558), .val (.int (1 : Int32)), .unset] [(.ref b573)]))
    refine own_astore X573 hx hby d6_26 rfl #[.val (.ref x0), .val (.int (0 : Int32)), .val (.int (3 : Int32)), .val (.ref b558), .val (.int (1 : Int32)), .val (.ref b573)] rfl rfl ?_
    refine own_aload X573 hx hby d6_28 rfl rfl rfl ?_
    refine own_iload X573 hx hby d6_30 rfl rfl ?_
    have f578 := (f574.keep K573 all0)
    refine own_static X573 hx hby hZ (argsL := [(.ref b573), (.int (1 : Int32))]) (rest := []) hown (hw _ tw_101) (hw _ tw_102) (hw _ tw_34) (hw _ tw_103) (by decide) (rmugc l Z a0 hw b573 (1 : Int32) T573.heap G (f578).2 V573 (by decide) (by decide) rfl rfl (own_utf hr1) hr1) rfl (by rw [hml]; rfl) pd_5 rfl (by decide) (W := 0) (Nat.le_refl _) (by decide) (by decide) (by decide) d6_32 rfl rfl (fun v577 T577 L577 X577 hQ577 => ?_)
    obtain ⟨rfl, rfl, e577⟩ := hQ577
    show Ends p.tables e below _ (T577.setTop (mkF m 35 #[.val (.ref x0), .val (.int (0 : Int32)), .val (.int (3 : Int32)), .val (.ref b558), .val (.int (1 : Int32)), .val (.ref b573)] [(.int y1)]))
    refine own_sipush X577 hx hby d6_35 rfl (255 : Int32) rfl ?_
    refine own_icmp_gt X577 hx hby d6_38 (pcY := 54) (pcN := 41) (by decide) rfl (fun (hc579 : 255 < y1.toInt) => ?_) (fun (hc579 : y1.toInt ≤ 255) => False.elim (by have q := gt559; omega))
    refine own_aload X577 hx hby d6_54 rfl rfl rfl ?_
    refine own_ret X577 hx hby hret hlk d6_56 (.ref b573) rfl (Or.inr (Or.inr ⟨rfl, rfl, rfl⟩)) (by decide) (by decide) ?_
    rw [e577]
    have f580 := (f576.trans K573 all0)
    exact ⟨b573, _, rfl, (Fr.app (Fr.app (Fr.app N0 N559q) N573q) (Fr.nil _)), f580, sz_b573, ge_b573, Or.inr V573⟩
  · -- at 2
    show Ends p.tables e below _ (T559.setTop (mkF m 12 #[.val (.ref x0), .val (.int (0 : Int32)), .val (.int (3 : Int32)), .val (.ref b558), .unset, .unset] [(.int (2 : Int32))]))
    refine own_istore X559 hx hby d6_12 rfl #[.val (.ref x0), .val (.int (0 : Int32)), .val (.int (3 : Int32)), .val (.ref b558), .val (.int (2 : Int32)), .unset] rfl ?_
    refine own_iload X559 hx hby d6_14 rfl rfl ?_
    refine own_iloadN X559 hx hby d6_16 rfl rfl ?_
    refine own_icmp_eq X559 hx hby d6_17 (pcY := 57) (pcN := 20) (by decide) rfl (fun (hc581 : (2 : Int32) = (3 : Int32)) => False.elim (by exact absurd hc581 (by decide))) (fun (hc581 : ¬ (2 : Int32) = (3 : Int32)) => ?_)
    refine own_aloadN X559 hx hby d6_20 rfl rfl rfl ?_
    refine own_iloadN X559 hx hby d6_21 rfl rfl ?_
    refine own_iloadN X559 hx hby d6_22 rfl rfl ?_
    have f583 := ((O.ext E558).keep K559 (allS ge_b558 all0))
    have f584 := (f560.keep K559 (ninS ne_x0_b558 nin0))
    have f585 := (((Keep.refl h0 []).ext E558).trans K559 (allS (Or.inr sz_b558) all0))
    refine own_static X559 hx hby hZ (argsL := [(.ref x0), (.int (0 : Int32)), (.int (3 : Int32))]) (rest := []) hown (hw _ tw_85) (hw _ tw_86) (hw _ tw_34) (hw _ tw_87) (by decide) (rmtob_3 l Z a0 hw x0 T559.heap n0 G f583 hr0 hr1 hr2 f584) rfl (by rw [hml]; rfl) pd_14 rfl (by decide) (W := 0) (Nat.le_refl _) (by decide) (by decide) (by decide) d6_23 rfl rfl (fun v582 T582 L582 X582 hQ582 => ?_)
    obtain ⟨b582, k582, rfl, N582q, K582, sq582, gq582, V582⟩ := hQ582
    have ge_b582 := gq582
    have sz_b582 : h0.size ≤ b582 := Nat.le_trans f585.1 sq582
    show Ends p.tables e below _ (T582.setTop (mkF m 26 #[.val (.ref x0), .val (.int (0 : Int32)), .val (.int (3 : Int32)), .val (.ref b558), .val (.int (2 : Int32)), .unset] [(.ref b582)]))
    refine own_astore X582 hx hby d6_26 rfl #[.val (.ref x0), .val (.int (0 : Int32)), .val (.int (3 : Int32)), .val (.ref b558), .val (.int (2 : Int32)), .val (.ref b582)] rfl rfl ?_
    refine own_aload X582 hx hby d6_28 rfl rfl rfl ?_
    refine own_iload X582 hx hby d6_30 rfl rfl ?_
    have f587 := (f583.keep K582 all0)
    refine own_static X582 hx hby hZ (argsL := [(.ref b582), (.int (2 : Int32))]) (rest := []) hown (hw _ tw_101) (hw _ tw_102) (hw _ tw_34) (hw _ tw_103) (by decide) (rmugc l Z a0 hw b582 (2 : Int32) T582.heap G (f587).2 V582 (by decide) (by decide) rfl rfl (own_utf hr2) hr2) rfl (by rw [hml]; rfl) pd_5 rfl (by decide) (W := 0) (Nat.le_refl _) (by decide) (by decide) (by decide) d6_32 rfl rfl (fun v586 T586 L586 X586 hQ586 => ?_)
    obtain ⟨rfl, rfl, e586⟩ := hQ586
    show Ends p.tables e below _ (T586.setTop (mkF m 35 #[.val (.ref x0), .val (.int (0 : Int32)), .val (.int (3 : Int32)), .val (.ref b558), .val (.int (2 : Int32)), .val (.ref b582)] [(.int y2)]))
    refine own_sipush X586 hx hby d6_35 rfl (255 : Int32) rfl ?_
    refine own_icmp_gt X586 hx hby d6_38 (pcY := 54) (pcN := 41) (by decide) rfl (fun (hc588 : 255 < y2.toInt) => ?_) (fun (hc588 : y2.toInt ≤ 255) => False.elim (by have q := gt559; omega))
    refine own_aload X586 hx hby d6_54 rfl rfl rfl ?_
    refine own_ret X586 hx hby hret hlk d6_56 (.ref b582) rfl (Or.inr (Or.inr ⟨rfl, rfl, rfl⟩)) (by decide) (by decide) ?_
    rw [e586]
    have f589 := (f585.trans K582 all0)
    exact ⟨b582, _, rfl, (Fr.app (Fr.app (Fr.app N0 N559q) N582q) (Fr.nil _)), f589, sz_b582, ge_b582, Or.inr V582⟩
set_option maxRecDepth 65536 in
set_option maxHeartbeats 40000000 in
theorem rmc1_4 (l : Launch) (Z : State) (a0 : Array Value) (hw : ∀ d ∈ tables_1, d.before a0 Z = true) (x0 : Addr) (h0 : Heap) (n0 : Nat) {ks : Int32} {fm : Value} (G : OwnGl Z ks fm) (O : Old Z n0 h0) {ka : ClassId} {y0 y1 y2 y3 : Int32} (hr0 : 0 ≤ y0.toInt ∧ y0.toInt < 65536) (hr1 : 0 ≤ y1.toInt ∧ y1.toInt < 65536) (hr2 : 0 ≤ y2.toInt ∧ y2.toInt < 65536) (hr3 : 0 ≤ y3.toInt ∧ y3.toInt < 65536) (Va : Arv Z h0 x0 ka .char (4 : Int32) [(.int y0), (.int y1), (.int y2), (.int y3)] (.int 0)) :
    OwnMet l Z (⟨"java/lang/StringUTF16", "compress", "([CII)[B"⟩ : MethodName) jdk_52_method_16_code 6 (some (.array .byte)) [] ({ frames := 3, cells := 2, slots := 12, locals := 44 } : Room) #[(.ref x0), (.int (0 : Int32)), (.int (4 : Int32))] h0 (fun v h L => ∃ b k, v = some (.ref b) ∧ Fr n0 L ∧ Keep h0 h [] ∧ h0.size ≤ b ∧ n0 ≤ b ∧ (((y0.toInt ≤ 255 ∧ y1.toInt ≤ 255 ∧ y2.toInt ≤ 255 ∧ y3.toInt ≤ 255) ∧ Arv Z h b k .byte (4 : Int32) [(.int y0.toInt8.toInt32), (.int y1.toInt8.toInt32), (.int y2.toInt8.toInt32), (.int y3.toInt8.toInt32)] (.int 0)) ∨ Arv Z h b k .byte (8 : Int32) [(.int (y0 >>> ((0 : Int32) &&& 31)).toInt8.toInt32), (.int (y0 >>> ((8 : Int32) &&& 31)).toInt8.toInt32), (.int (y1 >>> ((0 : Int32) &&& 31)).toInt8.toInt32), (.int (y1 >>> ((8 : Int32) &&& 31)).toInt8.toInt32), (.int (y2 >>> ((0 : Int32) &&& 31)).toInt8.toInt32), (.int (y2 >>> ((8 : Int32) &&& 31)).toInt8.toInt32), (.int (y3 >>> ((0 : Int32) &&& 31)).toInt8.toInt32), (.int (y3 >>> ((8 : Int32) &&& 31)).toInt8.toInt32)] (.int 0))) := by
  refine own_body (plainFor_of_name pn_5) (fun m => ef_c1_4 m x0) ?_
  intro p e s m below meth c s₁ X0 hx hby hml hown hnm hret hlk hZ e0
  replace hown : s.vm.findClass "java/lang/StringUTF16" = some m.cls := hown
  replace hml : c.maxLocals = 6 := hml
  have N0 := Fr.nil n0
  show Ends p.tables e below _ (s₁.setTop (mkF m 0 #[.val (.ref x0), .val (.int (0 : Int32)), .val (.int (4 : Int32)), .unset, .unset, .unset] []))
  have i255 : (255 : Int32).toInt = 255 := rfl
  show Ends p.tables e below _ (s₁.setTop (mkF m 0 #[.val (.ref x0), .val (.int (0 : Int32)), .val (.int (4 : Int32)), .unset, .unset, .unset] []))
  refine own_iloadN X0 hx hby d6_0 rfl rfl ?_
  refine own_newarray X0 hx hby hZ (aty := .byte) (hw _ tw_5) e0 (by decide) 4 (by decide) (by decide) (by decide) (by decide) .byte rfl [(.int (0 : Int32)), (.int (0 : Int32)), (.int (0 : Int32)), (.int (0 : Int32))] rfl d6_1 rfl (fun T590 h590 b590 k590 X590 e590 g590 E590 V590 => ?_)
  have ge_b590 : n0 ≤ b590 := own_ge O g590
  have sz_b590 : h0.size ≤ b590 := Nat.le_trans (Keep.refl h0 []).1 (Nat.le_of_eq g590.symm)
  have ne_x0_b590 : x0 ≠ b590 := own_lt Va.lt g590
  refine own_astoreN X590 hx hby d6_3 rfl #[.val (.ref x0), .val (.int (0 : Int32)), .val (.int (4 : Int32)), .val (.ref b590), .unset, .unset] rfl rfl ?_
  refine own_aloadN X590 hx hby d6_4 rfl rfl rfl ?_
  refine own_iloadN X590 hx hby d6_5 rfl rfl ?_
  refine own_aloadN X590 hx hby d6_6 rfl rfl rfl ?_
  refine own_iconst X590 hx hby d6_7 rfl (0 : Int32) rfl ?_
  refine own_iloadN X590 hx hby d6_8 rfl rfl ?_
  have f592 := (Va.ext E590)
  refine own_static X590 hx hby hZ (argsL := [(.ref x0), (.int (0 : Int32)), (.ref b590), (.int (0 : Int32)), (.int (4 : Int32))]) (rest := []) hown (hw _ tw_36) (hw _ tw_37) (hw _ tw_34) (hw _ tw_38) (by decide) (rmc2_4 l Z a0 hw x0 b590 h590 n0 ge_b590 ne_x0_b590 hr0 hr1 hr2 hr3 f592 V590) e590 (by rw [hml]; rfl) pd_13 rfl (by decide) (W := 0) (Nat.le_refl _) (by decide) (by decide) (by decide) d6_9 rfl rfl (fun v591 T591 L591 X591 hQ591 => ?_)
  rcases hQ591 with ⟨N591q, K591, (⟨rfl, al591, V591⟩ | ⟨rfl, gt591⟩ | ⟨rfl, gt591⟩ | ⟨rfl, gt591⟩ | ⟨rfl, gt591⟩)⟩
  · -- all
    show Ends p.tables e below _ (T591.setTop (mkF m 12 #[.val (.ref x0), .val (.int (0 : Int32)), .val (.int (4 : Int32)), .val (.ref b590), .unset, .unset] [(.int (4 : Int32))]))
    refine own_istore X591 hx hby d6_12 rfl #[.val (.ref x0), .val (.int (0 : Int32)), .val (.int (4 : Int32)), .val (.ref b590), .val (.int (4 : Int32)), .unset] rfl ?_
    refine own_iload X591 hx hby d6_14 rfl rfl ?_
    refine own_iloadN X591 hx hby d6_16 rfl rfl ?_
    refine own_icmp_eq X591 hx hby d6_17 (pcY := 57) (pcN := 20) (by decide) rfl (fun (hc593 : (4 : Int32) = (4 : Int32)) => ?_) (fun (hc593 : ¬ (4 : Int32) = (4 : Int32)) => False.elim (by exact absurd hc593 (by decide)))
    refine own_aloadN X591 hx hby d6_57 rfl rfl rfl ?_
    refine own_ret X591 hx hby hret hlk d6_58 (.ref b590) rfl (Or.inr (Or.inr ⟨rfl, rfl, rfl⟩)) (by decide) (by decide) ?_
    have f594 := (((Keep.refl h0 []).ext E590).trans K591 (allS (Or.inr sz_b590) all0))
    exact ⟨b590, _, rfl, (Fr.app N0 N591q), f594, sz_b590, ge_b590, Or.inl ⟨al591, V591⟩⟩
  · -- at 0
    show Ends p.tables e below _ (T591.setTop (mkF m 12 #[.val (.ref x0), .val (.int (0 : Int32)), .val (.int (4 : Int32)), .val (.ref b590), .unset, .unset] [(.int (0 : Int32))]))
    refine own_istore X591 hx hby d6_12 rfl #[.val (.ref x0), .val (.int (0 : Int32)), .val (.int (4 : Int32)), .val (.ref b590), .val (.int (0 : Int32)), .unset] rfl ?_
    refine own_iload X591 hx hby d6_14 rfl rfl ?_
    refine own_iloadN X591 hx hby d6_16 rfl rfl ?_
    refine own_icmp_eq X591 hx hby d6_17 (pcY := 57) (pcN := 20) (by decide) rfl (fun (hc595 : (0 : Int32) = (4 : Int32)) => False.elim (by exact absurd hc595 (by decide))) (fun (hc595 : ¬ (0 : Int32) = (4 : Int32)) => ?_)
    refine own_aloadN X591 hx hby d6_20 rfl rfl rfl ?_
    refine own_iloadN X591 hx hby d6_21 rfl rfl ?_
    refine own_iloadN X591 hx hby d6_22 rfl rfl ?_
    have f597 := ((O.ext E590).keep K591 (allS ge_b590 all0))
    have f598 := (f592.keep K591 (ninS ne_x0_b590 nin0))
    have f599 := (((Keep.refl h0 []).ext E590).trans K591 (allS (Or.inr sz_b590) all0))
    refine own_static X591 hx hby hZ (argsL := [(.ref x0), (.int (0 : Int32)), (.int (4 : Int32))]) (rest := []) hown (hw _ tw_85) (hw _ tw_86) (hw _ tw_34) (hw _ tw_87) (by decide) (rmtob_4 l Z a0 hw x0 T591.heap n0 G f597 hr0 hr1 hr2 hr3 f598) rfl (by rw [hml]; rfl) pd_14 rfl (by decide) (W := 0) (Nat.le_refl _) (by decide) (by decide) (by decide) d6_23 rfl rfl (fun v596 T596 L596 X596 hQ596 => ?_)
    obtain ⟨b596, k596, rfl, N596q, K596, sq596, gq596, V596⟩ := hQ596
    have ge_b596 := gq596
    have sz_b596 : h0.size ≤ b596 := Nat.le_trans f599.1 sq596
    show Ends p.tables e below _ (T596.setTop (mkF m 26 #[.val (.ref x0), .val (.int (0 : Int32)), .val (.int (4 : Int32)), .val (.ref b590), .val (.int (0 : Int32)), .unset] [(.ref b596)]))
    refine own_astore X596 hx hby d6_26 rfl #[.val (.ref x0), .val (.int (0 : Int32)), .val (.int (4 : Int32)), .val (.ref b590), .val (.int (0 : Int32)), .val (.ref b596)] rfl rfl ?_
    refine own_aload X596 hx hby d6_28 rfl rfl rfl ?_
    refine own_iload X596 hx hby d6_30 rfl rfl ?_
    have f601 := (f597.keep K596 all0)
    refine own_static X596 hx hby hZ (argsL := [(.ref b596), (.int (0 : Int32))]) (rest := []) hown (hw _ tw_101) (hw _ tw_102) (hw _ tw_34) (hw _ tw_103) (by decide) (rmugc l Z a0 hw b596 (0 : Int32) T596.heap G (f601).2 V596 (by decide) (by decide) rfl rfl (own_utf hr0) hr0) rfl (by rw [hml]; rfl) pd_5 rfl (by decide) (W := 0) (Nat.le_refl _) (by decide) (by decide) (by decide) d6_32 rfl rfl (fun v600 T600 L600 X600 hQ600 => ?_)
    obtain ⟨rfl, rfl, e600⟩ := hQ600
    show Ends p.tables e below _ (T600.setTop (mkF m 35 #[.val (.ref x0), .val (.int (0 : Int32)), .val (.int (4 : Int32)), .val (.ref b590), .val (.int (0 : Int32)), .val (.ref b596)] [(.int y0)]))
    refine own_sipush X600 hx hby d6_35 rfl (255 : Int32) rfl ?_
    refine own_icmp_gt X600 hx hby d6_38 (pcY := 54) (pcN := 41) (by decide) rfl (fun (hc602 : 255 < y0.toInt) => ?_) (fun (hc602 : y0.toInt ≤ 255) => False.elim (by have q := gt591; omega))
    refine own_aload X600 hx hby d6_54 rfl rfl rfl ?_
    refine own_ret X600 hx hby hret hlk d6_56 (.ref b596) rfl (Or.inr (Or.inr ⟨rfl, rfl, rfl⟩)) (by decide) (by decide) ?_
    rw [e600]
    have f603 := (f599.trans K596 all0)
    exact ⟨b596, _, rfl, (Fr.app (Fr.app (Fr.app N0 N591q) N596q) (Fr.nil _)), f603, sz_b596, ge_b596, Or.inr V596⟩
  · -- at 1
    show Ends p.tables e below _ (T591.setTop (mkF m 12 #[.val (.ref x0), .val (.int (0 : Int32)), .val (.int (4 : Int32)), .val (.ref b590), .unset, .unset] [(.int (1 : Int32))]))
    refine own_istore X591 hx hby d6_12 rfl #[.val (.ref x0), .val (.int (0 : Int32)), .val (.int (4 : Int32)), .val (.ref b590), .val (.int (1 : Int32)), .unset] rfl ?_
    refine own_iload X591 hx hby d6_14 rfl rfl ?_
    refine own_iloadN X591 hx hby d6_16 rfl rfl ?_
    refine own_icmp_eq X591 hx hby d6_17 (pcY := 57) (pcN := 20) (by decide) rfl (fun (hc604 : (1 : Int32) = (4 : Int32)) => False.elim (by exact absurd hc604 (by decide))) (fun (hc604 : ¬ (1 : Int32) = (4 : Int32)) => ?_)
    refine own_aloadN X591 hx hby d6_20 rfl rfl rfl ?_
    refine own_iloadN X591 hx hby d6_21 rfl rfl ?_
    refine own_iloadN X591 hx hby d6_22 rfl rfl ?_
    have f606 := ((O.ext E590).keep K591 (allS ge_b590 all0))
    have f607 := (f592.keep K591 (ninS ne_x0_b590 nin0))
    have f608 := (((Keep.refl h0 []).ext E590).trans K591 (allS (Or.inr sz_b590) all0))
    refine own_static X591 hx hby hZ (argsL := [(.ref x0), (.int (0 : Int32)), (.int (4 : Int32))]) (rest := []) hown (hw _ tw_85) (hw _ tw_86) (hw _ tw_34) (hw _ tw_87) (by decide) (rmtob_4 l Z a0 hw x0 T591.heap n0 G f606 hr0 hr1 hr2 hr3 f607) rfl (by rw [hml]; rfl) pd_14 rfl (by decide) (W := 0) (Nat.le_refl _) (by decide) (by decide) (by decide) d6_23 rfl rfl (fun v605 T605 L605 X605 hQ605 => ?_)
    obtain ⟨b605, k605, rfl, N605q, K605, sq605, gq605, V605⟩ := hQ605
    have ge_b605 := gq605
    have sz_b605 : h0.size ≤ b605 := Nat.le_trans f608.1 sq605
    show Ends p.tables e below _ (T605.setTop (mkF m 26 #[.val (.ref x0), .val (.int (0 : Int32)), .val (.int (4 : Int32)), .val (.ref b590), .val (.int (1 : Int32)), .unset] [(.ref b605)]))
    refine own_astore X605 hx hby d6_26 rfl #[.val (.ref x0), .val (.int (0 : Int32)), .val (.int (4 : Int32)), .val (.ref b590), .val (.int (1 : Int32)), .val (.ref b605)] rfl rfl ?_
    refine own_aload X605 hx hby d6_28 rfl rfl rfl ?_
    refine own_iload X605 hx hby d6_30 rfl rfl ?_
    have f610 := (f606.keep K605 all0)
    refine own_static X605 hx hby hZ (argsL := [(.ref b605), (.int (1 : Int32))]) (rest := []) hown (hw _ tw_101) (hw _ tw_102) (hw _ tw_34) (hw _ tw_103) (by decide) (rmugc l Z a0 hw b605 (1 : Int32) T605.heap G (f610).2 V605 (by decide) (by decide) rfl rfl (own_utf hr1) hr1) rfl (by rw [hml]; rfl) pd_5 rfl (by decide) (W := 0) (Nat.le_refl _) (by decide) (by decide) (by decide) d6_32 rfl rfl (fun v609 T609 L609 X609 hQ609 => ?_)
    obtain ⟨rfl, rfl, e609⟩ := hQ609
    show Ends p.tables e below _ (T609.setTop (mkF m 35 #[.val (.ref x0), .val (.int (0 : Int32)), .val (.int (4 : Int32)), .val (.ref b590), .val (.int (1 : Int32)), .val (.ref b605)] [(.int y1)]))
    refine own_sipush X609 hx hby d6_35 rfl (255 : Int32) rfl ?_
    refine own_icmp_gt X609 hx hby d6_38 (pcY := 54) (pcN := 41) (by decide) rfl (fun (hc611 : 255 < y1.toInt) => ?_) (fun (hc611 : y1.toInt ≤ 255) => False.elim (by have q := gt591; omega))
    refine own_aload X609 hx hby d6_54 rfl rfl rfl ?_
    refine own_ret X609 hx hby hret hlk d6_56 (.ref b605) rfl (Or.inr (Or.inr ⟨rfl, rfl, rfl⟩)) (by decide) (by decide) ?_
    rw [e609]
    have f612 := (f608.trans K605 all0)
    exact ⟨b605, _, rfl, (Fr.app (Fr.app (Fr.app N0 N591q) N605q) (Fr.nil _)), f612, sz_b605, ge_b605, Or.inr V605⟩
  · -- at 2
    show Ends p.tables e below _ (T591.setTop (mkF m 12 #[.val (.ref x0), .val (.int (0 : Int32)), .val (.int (4 : Int32)), .val (.ref b590), .unset, .unset] [(.int (2 : Int32))]))
    refine own_istore X591 hx hby d6_12 rfl #[.val (.ref x0), .val (.int (0 : Int32)), .val (.int (4 : Int32)), .val (.ref b590), .val (.int (2 : Int32)), .unset] rfl ?_
    refine own_iload X591 hx hby d6_14 rfl rfl ?_
    refine own_iloadN X591 hx hby d6_16 rfl rfl ?_
    refine own_icmp_eq X591 hx hby d6_17 (pcY := 57) (pcN := 20) (by decide) rfl (fun (hc613 : (2 : Int32) = (4 : Int32)) => False.elim (by exact absurd hc613 (by decide))) (fun (hc613 : ¬ (2 : Int32) = (4 : Int32)) => ?_)
    refine own_aloadN X591 hx hby d6_20 rfl rfl rfl ?_
    refine own_iloadN X591 hx hby d6_21 rfl rfl ?_
    refine own_iloadN X591 hx hby d6_22 rfl rfl ?_
    have f615 := ((O.ext E590).keep K591 (allS ge_b590 all0))
    have f616 := (f592.keep K591 (ninS ne_x0_b590 nin0))
    have f617 := (((Keep.refl h0 []).ext E590).trans K591 (allS (Or.inr sz_b590) all0))
    refine own_static X591 hx hby hZ (argsL := [(.ref x0), (.int (0 : Int32)), (.int (4 : Int32))]) (rest := []) hown (hw _ tw_85) (hw _ tw_86) (hw _ tw_34) (hw _ tw_87) (by decide) (rmtob_4 l Z a0 hw x0 T591.heap n0 G f615 hr0 hr1 hr2 hr3 f616) rfl (by rw [hml]; rfl) pd_14 rfl (by decide) (W := 0) (Nat.le_refl _) (by decide) (by decide) (by decide) d6_23 rfl rfl (fun v614 T614 L614 X614 hQ614 => ?_)
    obtain ⟨b614, k614, rfl, N614q, K614, sq614, gq614, V614⟩ := hQ614
    have ge_b614 := gq614
    have sz_b614 : h0.size ≤ b614 := Nat.le_trans f617.1 sq614
    show Ends p.tables e below _ (T614.setTop (mkF m 26 #[.val (.ref x0), .val (.int (0 : Int32)), .val (.int (4 : Int32)), .val (.ref b590), .val (.int (2 : Int32)), .unset] [(.ref b614)]))
    refine own_astore X614 hx hby d6_26 rfl #[.val (.ref x0), .val (.int (0 : Int32)), .val (.int (4 : Int32)), .val (.ref b590), .val (.int (2 : Int32)), .val (.ref b614)] rfl rfl ?_
    refine own_aload X614 hx hby d6_28 rfl rfl rfl ?_
    refine own_iload X614 hx hby d6_30 rfl rfl ?_
    have f619 := (f615.keep K614 all0)
    refine own_static X614 hx hby hZ (argsL := [(.ref b614), (.int (2 : Int32))]) (rest := []) hown (hw _ tw_101) (hw _ tw_102) (hw _ tw_34) (hw _ tw_103) (by decide) (rmugc l Z a0 hw b614 (2 : Int32) T614.heap G (f619).2 V614 (by decide) (by decide) rfl rfl (own_utf hr2) hr2) rfl (by rw [hml]; rfl) pd_5 rfl (by decide) (W := 0) (Nat.le_refl _) (by decide) (by decide) (by decide) d6_32 rfl rfl (fun v618 T618 L618 X618 hQ618 => ?_)
    obtain ⟨rfl, rfl, e618⟩ := hQ618
    show Ends p.tables e below _ (T618.setTop (mkF m 35 #[.val (.ref x0), .val (.int (0 : Int32)), .val (.int (4 : Int32)), .val (.ref b590), .val (.int (2 : Int32)), .val (.ref b614)] [(.int y2)]))
    refine own_sipush X618 hx hby d6_35 rfl (255 : Int32) rfl ?_
    refine own_icmp_gt X618 hx hby d6_38 (pcY := 54) (pcN := 41) (by decide) rfl (fun (hc620 : 255 < y2.toInt) => ?_) (fun (hc620 : y2.toInt ≤ 255) => False.elim (by have q := gt591; omega))
    refine own_aload X618 hx hby d6_54 rfl rfl rfl ?_
    refine own_ret X618 hx hby hret hlk d6_56 (.ref b614) rfl (Or.inr (Or.inr ⟨rfl, rfl, rfl⟩)) (by decide) (by decide) ?_
    rw [e618]
    have f621 := (f617.trans K614 all0)
    exact ⟨b614, _, rfl, (Fr.app (Fr.app (Fr.app N0 N591q) N614q) (Fr.nil _)), f621, sz_b614, ge_b614, Or.inr V614⟩
  · -- at 3
    show Ends p.tables e below _ (T591.setTop (mkF m 12 #[.val (.ref x0), .val (.int (0 : Int32)), .val (.int (4 : Int32)), .val (.ref b590), .unset, .unset] [(.int (3 : Int32))]))
    refine own_istore X591 hx hby d6_12 rfl #[.val (.ref x0), .val (.int (0 : Int32)), .val (.int (4 : Int32)), .val (.ref b590), .val (.int (3 : Int32)), .unset] rfl ?_
    refine own_iload X591 hx hby d6_14 rfl rfl ?_
    refine own_iloadN X591 hx hby d6_16 rfl rfl ?_
    refine own_icmp_eq X591 hx hby d6_17 (pcY := 57) (pcN := 20) (by decide) rfl (fun (hc622 : (3 : Int32) = (4 : Int32)) => False.elim (by exact absurd hc622 (by decide))) (fun (hc622 : ¬ (3 : Int32) = (4 : Int32)) => ?_)
    refine own_aloadN X591 hx hby d6_20 rfl rfl rfl ?_
    refine own_iloadN X591 hx hby d6_21 rfl rfl ?_
    refine own_iloadN X591 hx hby d6_22 rfl rfl ?_
    have f624 := ((O.ext E590).keep K591 (allS ge_b590 all0))
    have f625 := (f592.keep K591 (ninS ne_x0_b590 nin0))
    have f626 := (((Keep.refl h0 []).ext E590).trans K591 (allS (Or.inr sz_b590) all0))
    refine own_static X591 hx hby hZ (argsL := [(.ref x0), (.int (0 : Int32)), (.int (4 : Int32))]) (rest := []) hown (hw _ tw_85) (hw _ tw_86) (hw _ tw_34) (hw _ tw_87) (by decide) (rmtob_4 l Z a0 hw x0 T591.heap n0 G f624 hr0 hr1 hr2 hr3 f625) rfl (by rw [hml]; rfl) pd_14 rfl (by decide) (W := 0) (Nat.le_refl _) (by decide) (by decide) (by decide) d6_23 rfl rfl (fun v623 T623 L623 X623 hQ623 => ?_)
    obtain ⟨b623, k623, rfl, N623q, K623, sq623, gq623, V623⟩ := hQ623
    have ge_b623 := gq623
    have sz_b623 : h0.size ≤ b623 := Nat.le_trans f626.1 sq623
    show Ends p.tables e below _ (T623.setTop (mkF m 26 #[.val (.ref x0), .val (.int (0 : Int32)), .val (.int (4 : Int32)), .val (.ref b590), .val (.int (3 : Int32)), .unset] [(.ref b623)]))
    refine own_astore X623 hx hby d6_26 rfl #[.val (.ref x0), .val (.int (0 : Int32)), .val (.int (4 : Int32)), .val (.ref b590), .val (.int (3 : Int32)), .val (.ref b623)] rfl rfl ?_
    refine own_aload X623 hx hby d6_28 rfl rfl rfl ?_
    refine own_iload X623 hx hby d6_30 rfl rfl ?_
    have f628 := (f624.keep K623 all0)
    refine own_static X623 hx hby hZ (argsL := [(.ref b623), (.int (3 : Int32))]) (rest := []) hown (hw _ tw_101) (hw _ tw_102) (hw _ tw_34) (hw _ tw_103) (by decide) (rmugc l Z a0 hw b623 (3 : Int32) T623.heap G (f628).2 V623 (by decide) (by decide) rfl rfl (own_utf hr3) hr3) rfl (by rw [hml]; rfl) pd_5 rfl (by decide) (W := 0) (Nat.le_refl _) (by decide) (by decide) (by decide) d6_32 rfl rfl (fun v627 T627 L627 X627 hQ627 => ?_)
    obtain ⟨rfl, rfl, e627⟩ := hQ627
    show Ends p.tables e below _ (T627.setTop (mkF m 35 #[.val (.ref x0), .val (.int (0 : Int32)), .val (.int (4 : Int32)), .val (.ref b590), .val (.int (3 : Int32)), .val (.ref b623)] [(.int y3)]))
    refine own_sipush X627 hx hby d6_35 rfl (255 : Int32) rfl ?_
    refine own_icmp_gt X627 hx hby d6_38 (pcY := 54) (pcN := 41) (by decide) rfl (fun (hc629 : 255 < y3.toInt) => ?_) (fun (hc629 : y3.toInt ≤ 255) => False.elim (by have q := gt591; omega))
    refine own_aload X627 hx hby d6_54 rfl rfl rfl ?_
    refine own_ret X627 hx hby hret hlk d6_56 (.ref b623) rfl (Or.inr (Or.inr ⟨rfl, rfl, rfl⟩)) (by decide) (by decide) ?_
    rw [e627]
    have f630 := (f626.trans K623 all0)
    exact ⟨b623, _, rfl, (Fr.app (Fr.app (Fr.app N0 N591q) N623q) (Fr.nil _)), f630, sz_b623, ge_b623, Or.inr V623⟩
set_option maxRecDepth 65536 in
set_option maxHeartbeats 40000000 in
theorem rmc1_5 (l : Launch) (Z : State) (a0 : Array Value) (hw : ∀ d ∈ tables_1, d.before a0 Z = true) (x0 : Addr) (h0 : Heap) (n0 : Nat) {ks : Int32} {fm : Value} (G : OwnGl Z ks fm) (O : Old Z n0 h0) {ka : ClassId} {y0 y1 y2 y3 y4 : Int32} (hr0 : 0 ≤ y0.toInt ∧ y0.toInt < 65536) (hr1 : 0 ≤ y1.toInt ∧ y1.toInt < 65536) (hr2 : 0 ≤ y2.toInt ∧ y2.toInt < 65536) (hr3 : 0 ≤ y3.toInt ∧ y3.toInt < 65536) (hr4 : 0 ≤ y4.toInt ∧ y4.toInt < 65536) (Va : Arv Z h0 x0 ka .char (5 : Int32) [(.int y0), (.int y1), (.int y2), (.int y3), (.int y4)] (.int 0)) :
    OwnMet l Z (⟨"java/lang/StringUTF16", "compress", "([CII)[B"⟩ : MethodName) jdk_52_method_16_code 6 (some (.array .byte)) [] ({ frames := 3, cells := 2, slots := 15, locals := 44 } : Room) #[(.ref x0), (.int (0 : Int32)), (.int (5 : Int32))] h0 (fun v h L => ∃ b k, v = some (.ref b) ∧ Fr n0 L ∧ Keep h0 h [] ∧ h0.size ≤ b ∧ n0 ≤ b ∧ (((y0.toInt ≤ 255 ∧ y1.toInt ≤ 255 ∧ y2.toInt ≤ 255 ∧ y3.toInt ≤ 255 ∧ y4.toInt ≤ 255) ∧ Arv Z h b k .byte (5 : Int32) [(.int y0.toInt8.toInt32), (.int y1.toInt8.toInt32), (.int y2.toInt8.toInt32), (.int y3.toInt8.toInt32), (.int y4.toInt8.toInt32)] (.int 0)) ∨ Arv Z h b k .byte (10 : Int32) [(.int (y0 >>> ((0 : Int32) &&& 31)).toInt8.toInt32), (.int (y0 >>> ((8 : Int32) &&& 31)).toInt8.toInt32), (.int (y1 >>> ((0 : Int32) &&& 31)).toInt8.toInt32), (.int (y1 >>> ((8 : Int32) &&& 31)).toInt8.toInt32), (.int (y2 >>> ((0 : Int32) &&& 31)).toInt8.toInt32), (.int (y2 >>> ((8 : Int32) &&& 31)).toInt8.toInt32), (.int (y3 >>> ((0 : Int32) &&& 31)).toInt8.toInt32), (.int (y3 >>> ((8 : Int32) &&& 31)).toInt8.toInt32), (.int (y4 >>> ((0 : Int32) &&& 31)).toInt8.toInt32), (.int (y4 >>> ((8 : Int32) &&& 31)).toInt8.toInt32)] (.int 0))) := by
  refine own_body (plainFor_of_name pn_5) (fun m => ef_c1_5 m x0) ?_
  intro p e s m below meth c s₁ X0 hx hby hml hown hnm hret hlk hZ e0
  replace hown : s.vm.findClass "java/lang/StringUTF16" = some m.cls := hown
  replace hml : c.maxLocals = 6 := hml
  have N0 := Fr.nil n0
  show Ends p.tables e below _ (s₁.setTop (mkF m 0 #[.val (.ref x0), .val (.int (0 : Int32)), .val (.int (5 : Int32)), .unset, .unset, .unset] []))
  have i255 : (255 : Int32).toInt = 255 := rfl
  show Ends p.tables e below _ (s₁.setTop (mkF m 0 #[.val (.ref x0), .val (.int (0 : Int32)), .val (.int (5 : Int32)), .unset, .unset, .unset] []))
  refine own_iloadN X0 hx hby d6_0 rfl rfl ?_
  refine own_newarray X0 hx hby hZ (aty := .byte) (hw _ tw_5) e0 (by decide) 5 (by decide) (by decide) (by decide) (by decide) .byte rfl [(.int (0 : Int32)), (.int (0 : Int32)), (.int (0 : Int32)), (.int (0 : Int32)), (.int (0 : Int32))] rfl d6_1 rfl (fun T631 h631 b631 k631 X631 e631 g631 E631 V631 => ?_)
  have ge_b631 : n0 ≤ b631 := own_ge O g631
  have sz_b631 : h0.size ≤ b631 := Nat.le_trans (Keep.refl h0 []).1 (Nat.le_of_eq g631.symm)
  have ne_x0_b631 : x0 ≠ b631 := own_lt Va.lt g631
  refine own_astoreN X631 hx hby d6_3 rfl #[.val (.ref x0), .val (.int (0 : Int32)), .val (.int (5 : Int32)), .val (.ref b631), .unset, .unset] rfl rfl ?_
  refine own_aloadN X631 hx hby d6_4 rfl rfl rfl ?_
  refine own_iloadN X631 hx hby d6_5 rfl rfl ?_
  refine own_aloadN X631 hx hby d6_6 rfl rfl rfl ?_
  refine own_iconst X631 hx hby d6_7 rfl (0 : Int32) rfl ?_
  refine own_iloadN X631 hx hby d6_8 rfl rfl ?_
  have f633 := (Va.ext E631)
  refine own_static X631 hx hby hZ (argsL := [(.ref x0), (.int (0 : Int32)), (.ref b631), (.int (0 : Int32)), (.int (5 : Int32))]) (rest := []) hown (hw _ tw_36) (hw _ tw_37) (hw _ tw_34) (hw _ tw_38) (by decide) (rmc2_5 l Z a0 hw x0 b631 h631 n0 ge_b631 ne_x0_b631 hr0 hr1 hr2 hr3 hr4 f633 V631) e631 (by rw [hml]; rfl) pd_13 rfl (by decide) (W := 0) (Nat.le_refl _) (by decide) (by decide) (by decide) d6_9 rfl rfl (fun v632 T632 L632 X632 hQ632 => ?_)
  rcases hQ632 with ⟨N632q, K632, (⟨rfl, al632, V632⟩ | ⟨rfl, gt632⟩ | ⟨rfl, gt632⟩ | ⟨rfl, gt632⟩ | ⟨rfl, gt632⟩ | ⟨rfl, gt632⟩)⟩
  · -- all
    show Ends p.tables e below _ (T632.setTop (mkF m 12 #[.val (.ref x0), .val (.int (0 : Int32)), .val (.int (5 : Int32)), .val (.ref b631), .unset, .unset] [(.int (5 : Int32))]))
    refine own_istore X632 hx hby d6_12 rfl #[.val (.ref x0), .val (.int (0 : Int32)), .val (.int (5 : Int32)), .val (.ref b631), .val (.int (5 : Int32)), .unset] rfl ?_
    refine own_iload X632 hx hby d6_14 rfl rfl ?_
    refine own_iloadN X632 hx hby d6_16 rfl rfl ?_
    refine own_icmp_eq X632 hx hby d6_17 (pcY := 57) (pcN := 20) (by decide) rfl (fun (hc634 : (5 : Int32) = (5 : Int32)) => ?_) (fun (hc634 : ¬ (5 : Int32) = (5 : Int32)) => False.elim (by exact absurd hc634 (by decide)))
    refine own_aloadN X632 hx hby d6_57 rfl rfl rfl ?_
    refine own_ret X632 hx hby hret hlk d6_58 (.ref b631) rfl (Or.inr (Or.inr ⟨rfl, rfl, rfl⟩)) (by decide) (by decide) ?_
    have f635 := (((Keep.refl h0 []).ext E631).trans K632 (allS (Or.inr sz_b631) all0))
    exact ⟨b631, _, rfl, (Fr.app N0 N632q), f635, sz_b631, ge_b631, Or.inl ⟨al632, V632⟩⟩
  · -- at 0
    show Ends p.tables e below _ (T632.setTop (mkF m 12 #[.val (.ref x0), .val (.int (0 : Int32)), .val (.int (5 : Int32)), .val (.ref b631), .unset, .unset] [(.int (0 : Int32))]))
    refine own_istore X632 hx hby d6_12 rfl #[.val (.ref x0), .val (.int (0 : Int32)), .val (.int (5 : Int32)), .val (.ref b631), .val (.int (0 : Int32)), .unset] rfl ?_
    refine own_iload X632 hx hby d6_14 rfl rfl ?_
    refine own_iloadN X632 hx hby d6_16 rfl rfl ?_
    refine own_icmp_eq X632 hx hby d6_17 (pcY := 57) (pcN := 20) (by decide) rfl (fun (hc636 : (0 : Int32) = (5 : Int32)) => False.elim (by exact absurd hc636 (by decide))) (fun (hc636 : ¬ (0 : Int32) = (5 : Int32)) => ?_)
    refine own_aloadN X632 hx hby d6_20 rfl rfl rfl ?_
    refine own_iloadN X632 hx hby d6_21 rfl rfl ?_
    refine own_iloadN X632 hx hby d6_22 rfl rfl ?_
    have f638 := ((O.ext E631).keep K632 (allS ge_b631 all0))
    have f639 := (f633.keep K632 (ninS ne_x0_b631 nin0))
    have f640 := (((Keep.refl h0 []).ext E631).trans K632 (allS (Or.inr sz_b631) all0))
    refine own_static X632 hx hby hZ (argsL := [(.ref x0), (.int (0 : Int32)), (.int (5 : Int32))]) (rest := []) hown (hw _ tw_85) (hw _ tw_86) (hw _ tw_34) (hw _ tw_87) (by decide) (rmtob_5 l Z a0 hw x0 T632.heap n0 G f638 hr0 hr1 hr2 hr3 hr4 f639) rfl (by rw [hml]; rfl) pd_14 rfl (by decide) (W := 0) (Nat.le_refl _) (by decide) (by decide) (by decide) d6_23 rfl rfl (fun v637 T637 L637 X637 hQ637 => ?_)
    obtain ⟨b637, k637, rfl, N637q, K637, sq637, gq637, V637⟩ := hQ637
    have ge_b637 := gq637
    have sz_b637 : h0.size ≤ b637 := Nat.le_trans f640.1 sq637
    show Ends p.tables e below _ (T637.setTop (mkF m 26 #[.val (.ref x0), .val (.int (0 : Int32)), .val (.int (5 : Int32)), .val (.ref b631), .val (.int (0 : Int32)), .unset] [(.ref b637)]))
    refine own_astore X637 hx hby d6_26 rfl #[.val (.ref x0), .val (.int (0 : Int32)), .val (.int (5 : Int32)), .val (.ref b631), .val (.int (0 : Int32)), .val (.ref b637)] rfl rfl ?_
    refine own_aload X637 hx hby d6_28 rfl rfl rfl ?_
    refine own_iload X637 hx hby d6_30 rfl rfl ?_
    have f642 := (f638.keep K637 all0)
    refine own_static X637 hx hby hZ (argsL := [(.ref b637), (.int (0 : Int32))]) (rest := []) hown (hw _ tw_101) (hw _ tw_102) (hw _ tw_34) (hw _ tw_103) (by decide) (rmugc l Z a0 hw b637 (0 : Int32) T637.heap G (f642).2 V637 (by decide) (by decide) rfl rfl (own_utf hr0) hr0) rfl (by rw [hml]; rfl) pd_5 rfl (by decide) (W := 0) (Nat.le_refl _) (by decide) (by decide) (by decide) d6_32 rfl rfl (fun v641 T641 L641 X641 hQ641 => ?_)
    obtain ⟨rfl, rfl, e641⟩ := hQ641
    show Ends p.tables e below _ (T641.setTop (mkF m 35 #[.val (.ref x0), .val (.int (0 : Int32)), .val (.int (5 : Int32)), .val (.ref b631), .val (.int (0 : Int32)), .val (.ref b637)] [(.int y0)]))
    refine own_sipush X641 hx hby d6_35 rfl (255 : Int32) rfl ?_
    refine own_icmp_gt X641 hx hby d6_38 (pcY := 54) (pcN := 41) (by decide) rfl (fun (hc643 : 255 < y0.toInt) => ?_) (fun (hc643 : y0.toInt ≤ 255) => False.elim (by have q := gt632; omega))
    refine own_aload X641 hx hby d6_54 rfl rfl rfl ?_
    refine own_ret X641 hx hby hret hlk d6_56 (.ref b637) rfl (Or.inr (Or.inr ⟨rfl, rfl, rfl⟩)) (by decide) (by decide) ?_
    rw [e641]
    have f644 := (f640.trans K637 all0)
    exact ⟨b637, _, rfl, (Fr.app (Fr.app (Fr.app N0 N632q) N637q) (Fr.nil _)), f644, sz_b637, ge_b637, Or.inr V637⟩
  · -- at 1
    show Ends p.tables e below _ (T632.setTop (mkF m 12 #[.val (.ref x0), .val (.int (0 : Int32)), .val (.int (5 : Int32)), .val (.ref b631), .unset, .unset] [(.int (1 : Int32))]))
    refine own_istore X632 hx hby d6_12 rfl #[.val (.ref x0), .val (.int (0 : Int32)), .val (.int (5 : Int32)), .val (.ref b631), .val (.int (1 : Int32)), .unset] rfl ?_
    refine own_iload X632 hx hby d6_14 rfl rfl ?_
    refine own_iloadN X632 hx hby d6_16 rfl rfl ?_
    refine own_icmp_eq X632 hx hby d6_17 (pcY := 57) (pcN := 20) (by decide) rfl (fun (hc645 : (1 : Int32) = (5 : Int32)) => False.elim (by exact absurd hc645 (by decide))) (fun (hc645 : ¬ (1 : Int32) = (5 : Int32)) => ?_)
    refine own_aloadN X632 hx hby d6_20 rfl rfl rfl ?_
    refine own_iloadN X632 hx hby d6_21 rfl rfl ?_
    refine own_iloadN X632 hx hby d6_22 rfl rfl ?_
    have f647 := ((O.ext E631).keep K632 (allS ge_b631 all0))
    have f648 := (f633.keep K632 (ninS ne_x0_b631 nin0))
    have f649 := (((Keep.refl h0 []).ext E631).trans K632 (allS (Or.inr sz_b631) all0))
    refine own_static X632 hx hby hZ (argsL := [(.ref x0), (.int (0 : Int32)), (.int (5 : Int32))]) (rest := []) hown (hw _ tw_85) (hw _ tw_86) (hw _ tw_34) (hw _ tw_87) (by decide) (rmtob_5 l Z a0 hw x0 T632.heap n0 G f647 hr0 hr1 hr2 hr3 hr4 f648) rfl (by rw [hml]; rfl) pd_14 rfl (by decide) (W := 0) (Nat.le_refl _) (by decide) (by decide) (by decide) d6_23 rfl rfl (fun v646 T646 L646 X646 hQ646 => ?_)
    obtain ⟨b646, k646, rfl, N646q, K646, sq646, gq646, V646⟩ := hQ646
    have ge_b646 := gq646
    have sz_b646 : h0.size ≤ b646 := Nat.le_trans f649.1 sq646
    show Ends p.tables e below _ (T646.setTop (mkF m 26 #[.val (.ref x0), .val (.int (0 : Int32)), .val (.int (5 : Int32)), .val (.ref b631), .val (.int (1 : Int32)), .unset] [(.ref b646)]))
    refine own_astore X646 hx hby d6_26 rfl #[.val (.ref x0), .val (.int (0 : Int32)), .val (.int (5 : Int32)), .val (.ref b631), .val (.int (1 : Int32)), .val (.ref b646)] rfl rfl ?_
    refine own_aload X646 hx hby d6_28 rfl rfl rfl ?_
    refine own_iload X646 hx hby d6_30 rfl rfl ?_
    have f651 := (f647.keep K646 all0)
    refine own_static X646 hx hby hZ (argsL := [(.ref b646), (.int (1 : Int32))]) (rest := []) hown (hw _ tw_101) (hw _ tw_102) (hw _ tw_34) (hw _ tw_103) (by decide) (rmugc l Z a0 hw b646 (1 : Int32) T646.heap G (f651).2 V646 (by decide) (by decide) rfl rfl (own_utf hr1) hr1) rfl (by rw [hml]; rfl) pd_5 rfl (by decide) (W := 0) (Nat.le_refl _) (by decide) (by decide) (by decide) d6_32 rfl rfl (fun v650 T650 L650 X650 hQ650 => ?_)
    obtain ⟨rfl, rfl, e650⟩ := hQ650
    show Ends p.tables e below _ (T650.setTop (mkF m 35 #[.val (.ref x0), .val (.int (0 : Int32)), .val (.int (5 : Int32)), .val (.ref b631), .val (.int (1 : Int32)), .val (.ref b646)] [(.int y1)]))
    refine own_sipush X650 hx hby d6_35 rfl (255 : Int32) rfl ?_
    refine own_icmp_gt X650 hx hby d6_38 (pcY := 54) (pcN := 41) (by decide) rfl (fun (hc652 : 255 < y1.toInt) => ?_) (fun (hc652 : y1.toInt ≤ 255) => False.elim (by have q := gt632; omega))
    refine own_aload X650 hx hby d6_54 rfl rfl rfl ?_
    refine own_ret X650 hx hby hret hlk d6_56 (.ref b646) rfl (Or.inr (Or.inr ⟨rfl, rfl, rfl⟩)) (by decide) (by decide) ?_
    rw [e650]
    have f653 := (f649.trans K646 all0)
    exact ⟨b646, _, rfl, (Fr.app (Fr.app (Fr.app N0 N632q) N646q) (Fr.nil _)), f653, sz_b646, ge_b646, Or.inr V646⟩
  · -- at 2
    show Ends p.tables e below _ (T632.setTop (mkF m 12 #[.val (.ref x0), .val (.int (0 : Int32)), .val (.int (5 : Int32)), .val (.ref b631), .unset, .unset] [(.int (2 : Int32))]))
    refine own_istore X632 hx hby d6_12 rfl #[.val (.ref x0), .val (.int (0 : Int32)), .val (.int (5 : Int32)), .val (.ref b631), .val (.int (2 : Int32)), .unset] rfl ?_
    refine own_iload X632 hx hby d6_14 rfl rfl ?_
    refine own_iloadN X632 hx hby d6_16 rfl rfl ?_
    refine own_icmp_eq X632 hx hby d6_17 (pcY := 57) (pcN := 20) (by decide) rfl (fun (hc654 : (2 : Int32) = (5 : Int32)) => False.elim (by exact absurd hc654 (by decide))) (fun (hc654 : ¬ (2 : Int32) = (5 : Int32)) => ?_)
    refine own_aloadN X632 hx hby d6_20 rfl rfl rfl ?_
    refine own_iloadN X632 hx hby d6_21 rfl rfl ?_
    refine own_iloadN X632 hx hby d6_22 rfl rfl ?_
    have f656 := ((O.ext E631).keep K632 (allS ge_b631 all0))
    have f657 := (f633.keep K632 (ninS ne_x0_b631 nin0))
    have f658 := (((Keep.refl h0 []).ext E631).trans K632 (allS (Or.inr sz_b631) all0))
    refine own_static X632 hx hby hZ (argsL := [(.ref x0), (.int (0 : Int32)), (.int (5 : Int32))]) (rest := []) hown (hw _ tw_85) (hw _ tw_86) (hw _ tw_34) (hw _ tw_87) (by decide) (rmtob_5 l Z a0 hw x0 T632.heap n0 G f656 hr0 hr1 hr2 hr3 hr4 f657) rfl (by rw [hml]; rfl) pd_14 rfl (by decide) (W := 0) (Nat.le_refl _) (by decide) (by decide) (by decide) d6_23 rfl rfl (fun v655 T655 L655 X655 hQ655 => ?_)
    obtain ⟨b655, k655, rfl, N655q, K655, sq655, gq655, V655⟩ := hQ655
    have ge_b655 := gq655
    have sz_b655 : h0.size ≤ b655 := Nat.le_trans f658.1 sq655
    show Ends p.tables e below _ (T655.setTop (mkF m 26 #[.val (.ref x0), .val (.int (0 : Int32)), .val (.int (5 : Int32)), .val (.ref b631), .val (.int (2 : Int32)), .unset] [(.ref b655)]))
    refine own_astore X655 hx hby d6_26 rfl #[.val (.ref x0), .val (.int (0 : Int32)), .val (.int (5 : Int32)), .val (.ref b631), .val (.int (2 : Int32)), .val (.ref b655)] rfl rfl ?_
    refine own_aload X655 hx hby d6_28 rfl rfl rfl ?_
    refine own_iload X655 hx hby d6_30 rfl rfl ?_
    have f660 := (f656.keep K655 all0)
    refine own_static X655 hx hby hZ (argsL := [(.ref b655), (.int (2 : Int32))]) (rest := []) hown (hw _ tw_101) (hw _ tw_102) (hw _ tw_34) (hw _ tw_103) (by decide) (rmugc l Z a0 hw b655 (2 : Int32) T655.heap G (f660).2 V655 (by decide) (by decide) rfl rfl (own_utf hr2) hr2) rfl (by rw [hml]; rfl) pd_5 rfl (by decide) (W := 0) (Nat.le_refl _) (by decide) (by decide) (by decide) d6_32 rfl rfl (fun v659 T659 L659 X659 hQ659 => ?_)
    obtain ⟨rfl, rfl, e659⟩ := hQ659
    show Ends p.tables e below _ (T659.setTop (mkF m 35 #[.val (.ref x0), .val (.int (0 : Int32)), .val (.int (5 : Int32)), .val (.ref b631), .val (.int (2 : Int32)), .val (.ref b655)] [(.int y2)]))
    refine own_sipush X659 hx hby d6_35 rfl (255 : Int32) rfl ?_
    refine own_icmp_gt X659 hx hby d6_38 (pcY := 54) (pcN := 41) (by decide) rfl (fun (hc661 : 255 < y2.toInt) => ?_) (fun (hc661 : y2.toInt ≤ 255) => False.elim (by have q := gt632; omega))
    refine own_aload X659 hx hby d6_54 rfl rfl rfl ?_
    refine own_ret X659 hx hby hret hlk d6_56 (.ref b655) rfl (Or.inr (Or.inr ⟨rfl, rfl, rfl⟩)) (by decide) (by decide) ?_
    rw [e659]
    have f662 := (f658.trans K655 all0)
    exact ⟨b655, _, rfl, (Fr.app (Fr.app (Fr.app N0 N632q) N655q) (Fr.nil _)), f662, sz_b655, ge_b655, Or.inr V655⟩
  · -- at 3
    show Ends p.tables e below _ (T632.setTop (mkF m 12 #[.val (.ref x0), .val (.int (0 : Int32)), .val (.int (5 : Int32)), .val (.ref b631), .unset, .unset] [(.int (3 : Int32))]))
    refine own_istore X632 hx hby d6_12 rfl #[.val (.ref x0), .val (.int (0 : Int32)), .val (.int (5 : Int32)), .val (.ref b631), .val (.int (3 : Int32)), .unset] rfl ?_
    refine own_iload X632 hx hby d6_14 rfl rfl ?_
    refine own_iloadN X632 hx hby d6_16 rfl rfl ?_
    refine own_icmp_eq X632 hx hby d6_17 (pcY := 57) (pcN := 20) (by decide) rfl (fun (hc663 : (3 : Int32) = (5 : Int32)) => False.elim (by exact absurd hc663 (by decide))) (fun (hc663 : ¬ (3 : Int32) = (5 : Int32)) => ?_)
    refine own_aloadN X632 hx hby d6_20 rfl rfl rfl ?_
    refine own_iloadN X632 hx hby d6_21 rfl rfl ?_
    refine own_iloadN X632 hx hby d6_22 rfl rfl ?_
    have f665 := ((O.ext E631).keep K632 (allS ge_b631 all0))
    have f666 := (f633.keep K632 (ninS ne_x0_b631 nin0))
    have f667 := (((Keep.refl h0 []).ext E631).trans K632 (allS (Or.inr sz_b631) all0))
    refine own_static X632 hx hby hZ (argsL := [(.ref x0), (.int (0 : Int32)), (.int (5 : Int32))]) (rest := []) hown (hw _ tw_85) (hw _ tw_86) (hw _ tw_34) (hw _ tw_87) (by decide) (rmtob_5 l Z a0 hw x0 T632.heap n0 G f665 hr0 hr1 hr2 hr3 hr4 f666) rfl (by rw [hml]; rfl) pd_14 rfl (by decide) (W := 0) (Nat.le_refl _) (by decide) (by decide) (by decide) d6_23 rfl rfl (fun v664 T664 L664 X664 hQ664 => ?_)
    obtain ⟨b664, k664, rfl, N664q, K664, sq664, gq664, V664⟩ := hQ664
    have ge_b664 := gq664
    have sz_b664 : h0.size ≤ b664 := Nat.le_trans f667.1 sq664
    show Ends p.tables e below _ (T664.setTop (mkF m 26 #[.val (.ref x0), .val (.int (0 : Int32)), .val (.int (5 : Int32)), .val (.ref b631), .val (.int (3 : Int32)), .unset] [(.ref b664)]))
    refine own_astore X664 hx hby d6_26 rfl #[.val (.ref x0), .val (.int (0 : Int32)), .val (.int (5 : Int32)), .val (.ref b631), .val (.int (3 : Int32)), .val (.ref b664)] rfl rfl ?_
    refine own_aload X664 hx hby d6_28 rfl rfl rfl ?_
    refine own_iload X664 hx hby d6_30 rfl rfl ?_
    have f669 := (f665.keep K664 all0)
    refine own_static X664 hx hby hZ (argsL := [(.ref b664), (.int (3 : Int32))]) (rest := []) hown (hw _ tw_101) (hw _ tw_102) (hw _ tw_34) (hw _ tw_103) (by decide) (rmugc l Z a0 hw b664 (3 : Int32) T664.heap G (f669).2 V664 (by decide) (by decide) rfl rfl (own_utf hr3) hr3) rfl (by rw [hml]; rfl) pd_5 rfl (by decide) (W := 0) (Nat.le_refl _) (by decide) (by decide) (by decide) d6_32 rfl rfl (fun v668 T668 L668 X668 hQ668 => ?_)
    obtain ⟨rfl, rfl, e668⟩ := hQ668
    show Ends p.tables e below _ (T668.setTop (mkF m 35 #[.val (.ref x0), .val (.int (0 : Int32)), .val (.int (5 : Int32)), .val (.ref b631), .val (.int (3 : Int32)), .val (.ref b664)] [(.int y3)]))
    refine own_sipush X668 hx hby d6_35 rfl (255 : Int32) rfl ?_
    refine own_icmp_gt X668 hx hby d6_38 (pcY := 54) (pcN := 41) (by decide) rfl (fun (hc670 : 255 < y3.toInt) => ?_) (fun (hc670 : y3.toInt ≤ 255) => False.elim (by have q := gt632; omega))
    refine own_aload X668 hx hby d6_54 rfl rfl rfl ?_
    refine own_ret X668 hx hby hret hlk d6_56 (.ref b664) rfl (Or.inr (Or.inr ⟨rfl, rfl, rfl⟩)) (by decide) (by decide) ?_
    rw [e668]
    have f671 := (f667.trans K664 all0)
    exact ⟨b664, _, rfl, (Fr.app (Fr.app (Fr.app N0 N632q) N664q) (Fr.nil _)), f671, sz_b664, ge_b664, Or.inr V664⟩
  · -- at 4
    show Ends p.tables e below _ (T632.setTop (mkF m 12 #[.val (.ref x0), .val (.int (0 : Int32)), .val (.int (5 : Int32)), .val (.ref b631), .unset, .unset] [(.int (4 : Int32))]))
    refine own_istore X632 hx hby d6_12 rfl #[.val (.ref x0), .val (.int (0 : Int32)), .val (.int (5 : Int32)), .val (.ref b631), .val (.int (4 : Int32)), .unset] rfl ?_
    refine own_iload X632 hx hby d6_14 rfl rfl ?_
    refine own_iloadN X632 hx hby d6_16 rfl rfl ?_
    refine own_icmp_eq X632 hx hby d6_17 (pcY := 57) (pcN := 20) (by decide) rfl (fun (hc672 : (4 : Int32) = (5 : Int32)) => False.elim (by exact absurd hc672 (by decide))) (fun (hc672 : ¬ (4 : Int32) = (5 : Int32)) => ?_)
    refine own_aloadN X632 hx hby d6_20 rfl rfl rfl ?_
    refine own_iloadN X632 hx hby d6_21 rfl rfl ?_
    refine own_iloadN X632 hx hby d6_22 rfl rfl ?_
    have f674 := ((O.ext E631).keep K632 (allS ge_b631 all0))
    have f675 := (f633.keep K632 (ninS ne_x0_b631 nin0))
    have f676 := (((Keep.refl h0 []).ext E631).trans K632 (allS (Or.inr sz_b631) all0))
    refine own_static X632 hx hby hZ (argsL := [(.ref x0), (.int (0 : Int32)), (.int (5 : Int32))]) (rest := []) hown (hw _ tw_85) (hw _ tw_86) (hw _ tw_34) (hw _ tw_87) (by decide) (rmtob_5 l Z a0 hw x0 T632.heap n0 G f674 hr0 hr1 hr2 hr3 hr4 f675) rfl (by rw [hml]; rfl) pd_14 rfl (by decide) (W := 0) (Nat.le_refl _) (by decide) (by decide) (by decide) d6_23 rfl rfl (fun v673 T673 L673 X673 hQ673 => ?_)
    obtain ⟨b673, k673, rfl, N673q, K673, sq673, gq673, V673⟩ := hQ673
    have ge_b673 := gq673
    have sz_b673 : h0.size ≤ b673 := Nat.le_trans f676.1 sq673
    show Ends p.tables e below _ (T673.setTop (mkF m 26 #[.val (.ref x0), .val (.int (0 : Int32)), .val (.int (5 : Int32)), .val (.ref b631), .val (.int (4 : Int32)), .unset] [(.ref b673)]))
    refine own_astore X673 hx hby d6_26 rfl #[.val (.ref x0), .val (.int (0 : Int32)), .val (.int (5 : Int32)), .val (.ref b631), .val (.int (4 : Int32)), .val (.ref b673)] rfl rfl ?_
    refine own_aload X673 hx hby d6_28 rfl rfl rfl ?_
    refine own_iload X673 hx hby d6_30 rfl rfl ?_
    have f678 := (f674.keep K673 all0)
    refine own_static X673 hx hby hZ (argsL := [(.ref b673), (.int (4 : Int32))]) (rest := []) hown (hw _ tw_101) (hw _ tw_102) (hw _ tw_34) (hw _ tw_103) (by decide) (rmugc l Z a0 hw b673 (4 : Int32) T673.heap G (f678).2 V673 (by decide) (by decide) rfl rfl (own_utf hr4) hr4) rfl (by rw [hml]; rfl) pd_5 rfl (by decide) (W := 0) (Nat.le_refl _) (by decide) (by decide) (by decide) d6_32 rfl rfl (fun v677 T677 L677 X677 hQ677 => ?_)
    obtain ⟨rfl, rfl, e677⟩ := hQ677
    show Ends p.tables e below _ (T677.setTop (mkF m 35 #[.val (.ref x0), .val (.int (0 : Int32)), .val (.int (5 : Int32)), .val (.ref b631), .val (.int (4 : Int32)), .val (.ref b673)] [(.int y4)]))
    refine own_sipush X677 hx hby d6_35 rfl (255 : Int32) rfl ?_
    refine own_icmp_gt X677 hx hby d6_38 (pcY := 54) (pcN := 41) (by decide) rfl (fun (hc679 : 255 < y4.toInt) => ?_) (fun (hc679 : y4.toInt ≤ 255) => False.elim (by have q := gt632; omega))
    refine own_aload X677 hx hby d6_54 rfl rfl rfl ?_
    refine own_ret X677 hx hby hret hlk d6_56 (.ref b673) rfl (Or.inr (Or.inr ⟨rfl, rfl, rfl⟩)) (by decide) (by decide) ?_
    rw [e677]
    have f680 := (f676.trans K673 all0)
    exact ⟨b673, _, rfl, (Fr.app (Fr.app (Fr.app N0 N632q) N673q) (Fr.nil _)), f680, sz_b673, ge_b673, Or.inr V673⟩
set_option maxRecDepth 65536 in
set_option maxHeartbeats 40000000 in
theorem rmcal0_1 (l : Launch) (Z : State) (a0 : Array Value) (hw : ∀ d ∈ tables_1, d.before a0 Z = true) (x0 : Addr) (h0 : Heap) {kb : ClassId} {vs : List Value} (Vb : Arv Z h0 x0 kb .byte (1 : Int32) vs (.int 0)) :
    OwnMet l Z (⟨"java/lang/StringUTF16", "coderFromArrayLen", "([BI)B"⟩ : MethodName) jdk_52_method_15_code 2 (some .byte) [] ({ frames := 0, cells := 0, slots := 0, locals := 0 } : Room) #[(.ref x0), (.int (1 : Int32))] h0 (fun v h L => v = some (.int (0 : Int32)) ∧ L = [] ∧ h = h0) := by
  refine own_body (plainFor_of_name pn_5) (fun m => ef_cal0_1 m x0) ?_
  intro p e s m below meth c s₁ X0 hx hby hml hown hnm hret hlk hZ e0
  replace hown : s.vm.findClass "java/lang/StringUTF16" = some m.cls := hown
  replace hml : c.maxLocals = 2 := hml
  show Ends p.tables e below _ (s₁.setTop (mkF m 0 #[.val (.ref x0), .val (.int (1 : Int32))] []))
  refine own_iloadN X0 hx hby d8_0 rfl rfl ?_
  refine own_aloadN X0 hx hby d8_1 rfl rfl rfl ?_
  refine own_arraylength X0 hx hby hZ e0 Vb d8_2 rfl ?_
  refine own_isub X0 hx hby d8_3 rfl ?_
  show Ends p.tables e below _ (s₁.setTop (mkF m 4 #[.val (.ref x0), .val (.int (1 : Int32))] [(.int (0 : Int32))]))
  refine own_bipush X0 hx hby d8_4 rfl (31 : Int32) rfl ?_
  refine own_iushr X0 hx hby d8_6 rfl ?_
  refine own_i2b X0 hx hby d8_7 rfl ?_
  refine own_ret X0 hx hby hret hlk d8_8 (.int (0 : Int32)) rfl (Or.inl ⟨rfl, by simp, _, rfl⟩) (by decide) (by decide) ?_
  exact ⟨rfl, rfl, e0⟩
set_option maxRecDepth 65536 in
set_option maxHeartbeats 40000000 in
theorem rmcal1_1 (l : Launch) (Z : State) (a0 : Array Value) (hw : ∀ d ∈ tables_1, d.before a0 Z = true) (x0 : Addr) (h0 : Heap) {kb : ClassId} {vs : List Value} (Vb : Arv Z h0 x0 kb .byte (2 : Int32) vs (.int 0)) :
    OwnMet l Z (⟨"java/lang/StringUTF16", "coderFromArrayLen", "([BI)B"⟩ : MethodName) jdk_52_method_15_code 2 (some .byte) [] ({ frames := 0, cells := 0, slots := 0, locals := 0 } : Room) #[(.ref x0), (.int (1 : Int32))] h0 (fun v h L => v = some (.int (1 : Int32)) ∧ L = [] ∧ h = h0) := by
  refine own_body (plainFor_of_name pn_5) (fun m => ef_cal1_1 m x0) ?_
  intro p e s m below meth c s₁ X0 hx hby hml hown hnm hret hlk hZ e0
  replace hown : s.vm.findClass "java/lang/StringUTF16" = some m.cls := hown
  replace hml : c.maxLocals = 2 := hml
  show Ends p.tables e below _ (s₁.setTop (mkF m 0 #[.val (.ref x0), .val (.int (1 : Int32))] []))
  refine own_iloadN X0 hx hby d8_0 rfl rfl ?_
  refine own_aloadN X0 hx hby d8_1 rfl rfl rfl ?_
  refine own_arraylength X0 hx hby hZ e0 Vb d8_2 rfl ?_
  refine own_isub X0 hx hby d8_3 rfl ?_
  show Ends p.tables e below _ (s₁.setTop (mkF m 4 #[.val (.ref x0), .val (.int (1 : Int32))] [(.int (-1 : Int32))]))
  refine own_bipush X0 hx hby d8_4 rfl (31 : Int32) rfl ?_
  refine own_iushr X0 hx hby d8_6 rfl ?_
  refine own_i2b X0 hx hby d8_7 rfl ?_
  refine own_ret X0 hx hby hret hlk d8_8 (.int (1 : Int32)) rfl (Or.inl ⟨rfl, by simp, _, rfl⟩) (by decide) (by decide) ?_
  exact ⟨rfl, rfl, e0⟩
set_option maxRecDepth 65536 in
set_option maxHeartbeats 40000000 in
theorem rmcal0_2 (l : Launch) (Z : State) (a0 : Array Value) (hw : ∀ d ∈ tables_1, d.before a0 Z = true) (x0 : Addr) (h0 : Heap) {kb : ClassId} {vs : List Value} (Vb : Arv Z h0 x0 kb .byte (2 : Int32) vs (.int 0)) :
    OwnMet l Z (⟨"java/lang/StringUTF16", "coderFromArrayLen", "([BI)B"⟩ : MethodName) jdk_52_method_15_code 2 (some .byte) [] ({ frames := 0, cells := 0, slots := 0, locals := 0 } : Room) #[(.ref x0), (.int (2 : Int32))] h0 (fun v h L => v = some (.int (0 : Int32)) ∧ L = [] ∧ h = h0) := by
  refine own_body (plainFor_of_name pn_5) (fun m => ef_cal0_2 m x0) ?_
  intro p e s m below meth c s₁ X0 hx hby hml hown hnm hret hlk hZ e0
  replace hown : s.vm.findClass "java/lang/StringUTF16" = some m.cls := hown
  replace hml : c.maxLocals = 2 := hml
  show Ends p.tables e below _ (s₁.setTop (mkF m 0 #[.val (.ref x0), .val (.int (2 : Int32))] []))
  refine own_iloadN X0 hx hby d8_0 rfl rfl ?_
  refine own_aloadN X0 hx hby d8_1 rfl rfl rfl ?_
  refine own_arraylength X0 hx hby hZ e0 Vb d8_2 rfl ?_
  refine own_isub X0 hx hby d8_3 rfl ?_
  show Ends p.tables e below _ (s₁.setTop (mkF m 4 #[.val (.ref x0), .val (.int (2 : Int32))] [(.int (0 : Int32))]))
  refine own_bipush X0 hx hby d8_4 rfl (31 : Int32) rfl ?_
  refine own_iushr X0 hx hby d8_6 rfl ?_
  refine own_i2b X0 hx hby d8_7 rfl ?_
  refine own_ret X0 hx hby hret hlk d8_8 (.int (0 : Int32)) rfl (Or.inl ⟨rfl, by simp, _, rfl⟩) (by decide) (by decide) ?_
  exact ⟨rfl, rfl, e0⟩
set_option maxRecDepth 65536 in
set_option maxHeartbeats 40000000 in
theorem rmcal1_2 (l : Launch) (Z : State) (a0 : Array Value) (hw : ∀ d ∈ tables_1, d.before a0 Z = true) (x0 : Addr) (h0 : Heap) {kb : ClassId} {vs : List Value} (Vb : Arv Z h0 x0 kb .byte (4 : Int32) vs (.int 0)) :
    OwnMet l Z (⟨"java/lang/StringUTF16", "coderFromArrayLen", "([BI)B"⟩ : MethodName) jdk_52_method_15_code 2 (some .byte) [] ({ frames := 0, cells := 0, slots := 0, locals := 0 } : Room) #[(.ref x0), (.int (2 : Int32))] h0 (fun v h L => v = some (.int (1 : Int32)) ∧ L = [] ∧ h = h0) := by
  refine own_body (plainFor_of_name pn_5) (fun m => ef_cal1_2 m x0) ?_
  intro p e s m below meth c s₁ X0 hx hby hml hown hnm hret hlk hZ e0
  replace hown : s.vm.findClass "java/lang/StringUTF16" = some m.cls := hown
  replace hml : c.maxLocals = 2 := hml
  show Ends p.tables e below _ (s₁.setTop (mkF m 0 #[.val (.ref x0), .val (.int (2 : Int32))] []))
  refine own_iloadN X0 hx hby d8_0 rfl rfl ?_
  refine own_aloadN X0 hx hby d8_1 rfl rfl rfl ?_
  refine own_arraylength X0 hx hby hZ e0 Vb d8_2 rfl ?_
  refine own_isub X0 hx hby d8_3 rfl ?_
  show Ends p.tables e below _ (s₁.setTop (mkF m 4 #[.val (.ref x0), .val (.int (2 : Int32))] [(.int (-2 : Int32))]))
  refine own_bipush X0 hx hby d8_4 rfl (31 : Int32) rfl ?_
  refine own_iushr X0 hx hby d8_6 rfl ?_
  refine own_i2b X0 hx hby d8_7 rfl ?_
  refine own_ret X0 hx hby hret hlk d8_8 (.int (1 : Int32)) rfl (Or.inl ⟨rfl, by simp, _, rfl⟩) (by decide) (by decide) ?_
  exact ⟨rfl, rfl, e0⟩
set_option maxRecDepth 65536 in
set_option maxHeartbeats 40000000 in
theorem rmcal0_3 (l : Launch) (Z : State) (a0 : Array Value) (hw : ∀ d ∈ tables_1, d.before a0 Z = true) (x0 : Addr) (h0 : Heap) {kb : ClassId} {vs : List Value} (Vb : Arv Z h0 x0 kb .byte (3 : Int32) vs (.int 0)) :
    OwnMet l Z (⟨"java/lang/StringUTF16", "coderFromArrayLen", "([BI)B"⟩ : MethodName) jdk_52_method_15_code 2 (some .byte) [] ({ frames := 0, cells := 0, slots := 0, locals := 0 } : Room) #[(.ref x0), (.int (3 : Int32))] h0 (fun v h L => v = some (.int (0 : Int32)) ∧ L = [] ∧ h = h0) := by
  refine own_body (plainFor_of_name pn_5) (fun m => ef_cal0_3 m x0) ?_
  intro p e s m below meth c s₁ X0 hx hby hml hown hnm hret hlk hZ e0
  replace hown : s.vm.findClass "java/lang/StringUTF16" = some m.cls := hown
  replace hml : c.maxLocals = 2 := hml
  show Ends p.tables e below _ (s₁.setTop (mkF m 0 #[.val (.ref x0), .val (.int (3 : Int32))] []))
  refine own_iloadN X0 hx hby d8_0 rfl rfl ?_
  refine own_aloadN X0 hx hby d8_1 rfl rfl rfl ?_
  refine own_arraylength X0 hx hby hZ e0 Vb d8_2 rfl ?_
  refine own_isub X0 hx hby d8_3 rfl ?_
  show Ends p.tables e below _ (s₁.setTop (mkF m 4 #[.val (.ref x0), .val (.int (3 : Int32))] [(.int (0 : Int32))]))
  refine own_bipush X0 hx hby d8_4 rfl (31 : Int32) rfl ?_
  refine own_iushr X0 hx hby d8_6 rfl ?_
  refine own_i2b X0 hx hby d8_7 rfl ?_
  refine own_ret X0 hx hby hret hlk d8_8 (.int (0 : Int32)) rfl (Or.inl ⟨rfl, by simp, _, rfl⟩) (by decide) (by decide) ?_
  exact ⟨rfl, rfl, e0⟩
set_option maxRecDepth 65536 in
set_option maxHeartbeats 40000000 in
theorem rmcal1_3 (l : Launch) (Z : State) (a0 : Array Value) (hw : ∀ d ∈ tables_1, d.before a0 Z = true) (x0 : Addr) (h0 : Heap) {kb : ClassId} {vs : List Value} (Vb : Arv Z h0 x0 kb .byte (6 : Int32) vs (.int 0)) :
    OwnMet l Z (⟨"java/lang/StringUTF16", "coderFromArrayLen", "([BI)B"⟩ : MethodName) jdk_52_method_15_code 2 (some .byte) [] ({ frames := 0, cells := 0, slots := 0, locals := 0 } : Room) #[(.ref x0), (.int (3 : Int32))] h0 (fun v h L => v = some (.int (1 : Int32)) ∧ L = [] ∧ h = h0) := by
  refine own_body (plainFor_of_name pn_5) (fun m => ef_cal1_3 m x0) ?_
  intro p e s m below meth c s₁ X0 hx hby hml hown hnm hret hlk hZ e0
  replace hown : s.vm.findClass "java/lang/StringUTF16" = some m.cls := hown
  replace hml : c.maxLocals = 2 := hml
  show Ends p.tables e below _ (s₁.setTop (mkF m 0 #[.val (.ref x0), .val (.int (3 : Int32))] []))
  refine own_iloadN X0 hx hby d8_0 rfl rfl ?_
  refine own_aloadN X0 hx hby d8_1 rfl rfl rfl ?_
  refine own_arraylength X0 hx hby hZ e0 Vb d8_2 rfl ?_
  refine own_isub X0 hx hby d8_3 rfl ?_
  show Ends p.tables e below _ (s₁.setTop (mkF m 4 #[.val (.ref x0), .val (.int (3 : Int32))] [(.int (-3 : Int32))]))
  refine own_bipush X0 hx hby d8_4 rfl (31 : Int32) rfl ?_
  refine own_iushr X0 hx hby d8_6 rfl ?_
  refine own_i2b X0 hx hby d8_7 rfl ?_
  refine own_ret X0 hx hby hret hlk d8_8 (.int (1 : Int32)) rfl (Or.inl ⟨rfl, by simp, _, rfl⟩) (by decide) (by decide) ?_
  exact ⟨rfl, rfl, e0⟩
set_option maxRecDepth 65536 in
set_option maxHeartbeats 40000000 in
theorem rmcal0_4 (l : Launch) (Z : State) (a0 : Array Value) (hw : ∀ d ∈ tables_1, d.before a0 Z = true) (x0 : Addr) (h0 : Heap) {kb : ClassId} {vs : List Value} (Vb : Arv Z h0 x0 kb .byte (4 : Int32) vs (.int 0)) :
    OwnMet l Z (⟨"java/lang/StringUTF16", "coderFromArrayLen", "([BI)B"⟩ : MethodName) jdk_52_method_15_code 2 (some .byte) [] ({ frames := 0, cells := 0, slots := 0, locals := 0 } : Room) #[(.ref x0), (.int (4 : Int32))] h0 (fun v h L => v = some (.int (0 : Int32)) ∧ L = [] ∧ h = h0) := by
  refine own_body (plainFor_of_name pn_5) (fun m => ef_cal0_4 m x0) ?_
  intro p e s m below meth c s₁ X0 hx hby hml hown hnm hret hlk hZ e0
  replace hown : s.vm.findClass "java/lang/StringUTF16" = some m.cls := hown
  replace hml : c.maxLocals = 2 := hml
  show Ends p.tables e below _ (s₁.setTop (mkF m 0 #[.val (.ref x0), .val (.int (4 : Int32))] []))
  refine own_iloadN X0 hx hby d8_0 rfl rfl ?_
  refine own_aloadN X0 hx hby d8_1 rfl rfl rfl ?_
  refine own_arraylength X0 hx hby hZ e0 Vb d8_2 rfl ?_
  refine own_isub X0 hx hby d8_3 rfl ?_
  show Ends p.tables e below _ (s₁.setTop (mkF m 4 #[.val (.ref x0), .val (.int (4 : Int32))] [(.int (0 : Int32))]))
  refine own_bipush X0 hx hby d8_4 rfl (31 : Int32) rfl ?_
  refine own_iushr X0 hx hby d8_6 rfl ?_
  refine own_i2b X0 hx hby d8_7 rfl ?_
  refine own_ret X0 hx hby hret hlk d8_8 (.int (0 : Int32)) rfl (Or.inl ⟨rfl, by simp, _, rfl⟩) (by decide) (by decide) ?_
  exact ⟨rfl, rfl, e0⟩
set_option maxRecDepth 65536 in
set_option maxHeartbeats 40000000 in
theorem rmcal1_4 (l : Launch) (Z : State) (a0 : Array Value) (hw : ∀ d ∈ tables_1, d.before a0 Z = true) (x0 : Addr) (h0 : Heap) {kb : ClassId} {vs : List Value} (Vb : Arv Z h0 x0 kb .byte (8 : Int32) vs (.int 0)) :
    OwnMet l Z (⟨"java/lang/StringUTF16", "coderFromArrayLen", "([BI)B"⟩ : MethodName) jdk_52_method_15_code 2 (some .byte) [] ({ frames := 0, cells := 0, slots := 0, locals := 0 } : Room) #[(.ref x0), (.int (4 : Int32))] h0 (fun v h L => v = some (.int (1 : Int32)) ∧ L = [] ∧ h = h0) := by
  refine own_body (plainFor_of_name pn_5) (fun m => ef_cal1_4 m x0) ?_
  intro p e s m below meth c s₁ X0 hx hby hml hown hnm hret hlk hZ e0
  replace hown : s.vm.findClass "java/lang/StringUTF16" = some m.cls := hown
  replace hml : c.maxLocals = 2 := hml
  show Ends p.tables e below _ (s₁.setTop (mkF m 0 #[.val (.ref x0), .val (.int (4 : Int32))] []))
  refine own_iloadN X0 hx hby d8_0 rfl rfl ?_
  refine own_aloadN X0 hx hby d8_1 rfl rfl rfl ?_
  refine own_arraylength X0 hx hby hZ e0 Vb d8_2 rfl ?_
  refine own_isub X0 hx hby d8_3 rfl ?_
  show Ends p.tables e below _ (s₁.setTop (mkF m 4 #[.val (.ref x0), .val (.int (4 : Int32))] [(.int (-4 : Int32))]))
  refine own_bipush X0 hx hby d8_4 rfl (31 : Int32) rfl ?_
  refine own_iushr X0 hx hby d8_6 rfl ?_
  refine own_i2b X0 hx hby d8_7 rfl ?_
  refine own_ret X0 hx hby hret hlk d8_8 (.int (1 : Int32)) rfl (Or.inl ⟨rfl, by simp, _, rfl⟩) (by decide) (by decide) ?_
  exact ⟨rfl, rfl, e0⟩
set_option maxRecDepth 65536 in
set_option maxHeartbeats 40000000 in
theorem rmcal0_5 (l : Launch) (Z : State) (a0 : Array Value) (hw : ∀ d ∈ tables_1, d.before a0 Z = true) (x0 : Addr) (h0 : Heap) {kb : ClassId} {vs : List Value} (Vb : Arv Z h0 x0 kb .byte (5 : Int32) vs (.int 0)) :
    OwnMet l Z (⟨"java/lang/StringUTF16", "coderFromArrayLen", "([BI)B"⟩ : MethodName) jdk_52_method_15_code 2 (some .byte) [] ({ frames := 0, cells := 0, slots := 0, locals := 0 } : Room) #[(.ref x0), (.int (5 : Int32))] h0 (fun v h L => v = some (.int (0 : Int32)) ∧ L = [] ∧ h = h0) := by
  refine own_body (plainFor_of_name pn_5) (fun m => ef_cal0_5 m x0) ?_
  intro p e s m below meth c s₁ X0 hx hby hml hown hnm hret hlk hZ e0
  replace hown : s.vm.findClass "java/lang/StringUTF16" = some m.cls := hown
  replace hml : c.maxLocals = 2 := hml
  show Ends p.tables e below _ (s₁.setTop (mkF m 0 #[.val (.ref x0), .val (.int (5 : Int32))] []))
  refine own_iloadN X0 hx hby d8_0 rfl rfl ?_
  refine own_aloadN X0 hx hby d8_1 rfl rfl rfl ?_
  refine own_arraylength X0 hx hby hZ e0 Vb d8_2 rfl ?_
  refine own_isub X0 hx hby d8_3 rfl ?_
  show Ends p.tables e below _ (s₁.setTop (mkF m 4 #[.val (.ref x0), .val (.int (5 : Int32))] [(.int (0 : Int32))]))
  refine own_bipush X0 hx hby d8_4 rfl (31 : Int32) rfl ?_
  refine own_iushr X0 hx hby d8_6 rfl ?_
  refine own_i2b X0 hx hby d8_7 rfl ?_
  refine own_ret X0 hx hby hret hlk d8_8 (.int (0 : Int32)) rfl (Or.inl ⟨rfl, by simp, _, rfl⟩) (by decide) (by decide) ?_
  exact ⟨rfl, rfl, e0⟩
set_option maxRecDepth 65536 in
set_option maxHeartbeats 40000000 in
theorem rmcal1_5 (l : Launch) (Z : State) (a0 : Array Value) (hw : ∀ d ∈ tables_1, d.before a0 Z = true) (x0 : Addr) (h0 : Heap) {kb : ClassId} {vs : List Value} (Vb : Arv Z h0 x0 kb .byte (10 : Int32) vs (.int 0)) :
    OwnMet l Z (⟨"java/lang/StringUTF16", "coderFromArrayLen", "([BI)B"⟩ : MethodName) jdk_52_method_15_code 2 (some .byte) [] ({ frames := 0, cells := 0, slots := 0, locals := 0 } : Room) #[(.ref x0), (.int (5 : Int32))] h0 (fun v h L => v = some (.int (1 : Int32)) ∧ L = [] ∧ h = h0) := by
  refine own_body (plainFor_of_name pn_5) (fun m => ef_cal1_5 m x0) ?_
  intro p e s m below meth c s₁ X0 hx hby hml hown hnm hret hlk hZ e0
  replace hown : s.vm.findClass "java/lang/StringUTF16" = some m.cls := hown
  replace hml : c.maxLocals = 2 := hml
  show Ends p.tables e below _ (s₁.setTop (mkF m 0 #[.val (.ref x0), .val (.int (5 : Int32))] []))
  refine own_iloadN X0 hx hby d8_0 rfl rfl ?_
  refine own_aloadN X0 hx hby d8_1 rfl rfl rfl ?_
  refine own_arraylength X0 hx hby hZ e0 Vb d8_2 rfl ?_
  refine own_isub X0 hx hby d8_3 rfl ?_
  show Ends p.tables e below _ (s₁.setTop (mkF m 4 #[.val (.ref x0), .val (.int (5 : Int32))] [(.int (-5 : Int32))]))
  refine own_bipush X0 hx hby d8_4 rfl (31 : Int32) rfl ?_
  refine own_iushr X0 hx hby d8_6 rfl ?_
  refine own_i2b X0 hx hby d8_7 rfl ?_
  refine own_ret X0 hx hby hret hlk d8_8 (.int (1 : Int32)) rfl (Or.inl ⟨rfl, by simp, _, rfl⟩) (by decide) (by decide) ?_
  exact ⟨rfl, rfl, e0⟩
set_option maxRecDepth 65536 in
set_option maxHeartbeats 40000000 in
theorem rmi4_1 (l : Launch) (Z : State) (a0 : Array Value) (hw : ∀ d ∈ tables_1, d.before a0 Z = true) (x0 : Addr) (x1 : Addr) (h0 : Heap) (n0 : Nat) {ks : Int32} {fm : Value} (G : OwnGl Z ks fm) (gx : n0 ≤ x0) (E : Exa Z h0 x0 "java/lang/String") (Fc : Fld Z h0 x0 "java/lang/String" "coder" "B" (.int (0 : Int32))) (Fv : Fld Z h0 x0 "java/lang/String" "value" "[B" .null) (O : Old Z n0 h0) {ka : ClassId} {y0 : Int32} (hr0 : 0 ≤ y0.toInt ∧ y0.toInt < 65536) (Va : Arv Z h0 x1 ka .char (1 : Int32) [(.int y0)] (.int 0)) :
    OwnMet l Z (⟨"java/lang/String", "<init>", "([CIILjava/lang/Void;)V"⟩ : MethodName) jdk_42_method_149_code 6 none [] ({ frames := 4, cells := 2, slots := 3, locals := 61 } : Room) #[(.ref x0), (.ref x1), (.int (0 : Int32)), (.int (1 : Int32)), .null] h0 (fun v h L => ∃ b k, v = none ∧ Fr n0 L ∧ Keep h0 h [x0] ∧ Fld Z h x0 "java/lang/String" "value" "[B" (.ref b) ∧ (((y0.toInt ≤ 255) ∧ Fld Z h x0 "java/lang/String" "coder" "B" (.int (0 : Int32)) ∧ Arv Z h b k .byte (1 : Int32) [(.int y0.toInt8.toInt32)] (.int 0)) ∨ (Fld Z h x0 "java/lang/String" "coder" "B" (.int (1 : Int32)) ∧ Arv Z h b k .byte (2 : Int32) [(.int (y0 >>> ((0 : Int32) &&& 31)).toInt8.toInt32), (.int (y0 >>> ((8 : Int32) &&& 31)).toInt8.toInt32)] (.int 0)))) := by
  refine own_body (plainFor_of_name pn_3) (fun m => ef_i4_1 m x0 x1) ?_
  intro p e s m below meth c s₁ X0 hx hby hml hown hnm hret hlk hZ e0
  replace hown : s.vm.findClass "java/lang/String" = some m.cls := hown
  replace hml : c.maxLocals = 6 := hml
  have N0 := Fr.nil n0
  show Ends p.tables e below _ (s₁.setTop (mkF m 0 #[.val (.ref x0), .val (.ref x1), .val (.int (0 : Int32)), .val (.int (1 : Int32)), .val .null, .unset] []))
  refine own_aloadN X0 hx hby d4_0 rfl rfl rfl ?_
  refine own_initO X0 hx hby hZ hown (hw _ tw_28) (hw _ tw_29) (hw _ tw_30) e0 (by rw [hml]; rfl) (by decide) (W := 0) (Nat.le_refl _) (by decide) d4_1 rfl (fun T681 X681 e681 => ?_)
  refine own_iloadN X681 hx hby d4_4 rfl rfl ?_
  refine own_if_ne X681 hx hby d4_5 (pcY := 27) (pcN := 8) (by decide) rfl (fun (hc682 : ¬ (1 : Int32) = (0 : Int32)) => ?_) (fun (hc682 : (1 : Int32) = (0 : Int32)) => False.elim (by exact absurd hc682 (by decide)))
  refine own_getstatic X681 hx hby hZ hown (host := "") (Or.inl (hw _ tw_31)) Via.refl e681 (G.2.2.1.ext (O).2) d4_27 rfl (fun T683 X683 e683 => ?_)
  refine own_if_eq X683 hx hby d4_30 (pcY := 58) (pcN := 33) (by decide) rfl (fun (hc684 : ks = (0 : Int32)) => False.elim (by exact G.1 hc684)) (fun (hc684 : ¬ ks = (0 : Int32)) => ?_)
  refine own_aloadN X683 hx hby d4_33 rfl rfl rfl ?_
  refine own_iloadN X683 hx hby d4_34 rfl rfl ?_
  refine own_iloadN X683 hx hby d4_35 rfl rfl ?_
  refine own_static X683 hx hby hZ (argsL := [(.ref x1), (.int (0 : Int32)), (.int (1 : Int32))]) (rest := []) hown (hw _ tw_32) (hw _ tw_33) (hw _ tw_34) (hw _ tw_35) (by decide) (rmc1_1 l Z a0 hw x1 h0 n0 G O hr0 Va) e683 (by rw [hml]; rfl) pd_14 rfl (by decide) (W := 0) (Nat.le_refl _) (by decide) (by decide) (by decide) d4_36 rfl rfl (fun v685 T685 L685 X685 hQ685 => ?_)
  rcases hQ685 with ⟨b685, k685, rfl, N685q, K685, sq685, gq685, (⟨al685, V685⟩ | V685)⟩
  · -- latin
    show Ends p.tables e below _ (T685.setTop (mkF m 39 #[.val (.ref x0), .val (.ref x1), .val (.int (0 : Int32)), .val (.int (1 : Int32)), .val .null, .unset] [(.ref b685)]))
    refine own_astore X685 hx hby d4_39 rfl #[.val (.ref x0), .val (.ref x1), .val (.int (0 : Int32)), .val (.int (1 : Int32)), .val .null, .val (.ref b685)] rfl rfl ?_
    refine own_aloadN X685 hx hby d4_41 rfl rfl rfl ?_
    refine own_aload X685 hx hby d4_42 rfl rfl rfl ?_
    refine own_iloadN X685 hx hby d4_44 rfl rfl ?_
    refine own_static X685 hx hby hZ (argsL := [(.ref b685), (.int (1 : Int32))]) (rest := [(.ref x0)]) hown (hw _ tw_39) (hw _ tw_40) (hw _ tw_34) (hw _ tw_41) (by decide) (rmcal0_1 l Z a0 hw b685 T685.heap V685) rfl (by rw [hml]; rfl) pd_15 rfl (by decide) (W := 1) (Nat.le_refl _) (by decide) (by decide) (by decide) d4_45 rfl rfl (fun v686 T686 L686 X686 hQ686 => ?_)
    obtain ⟨rfl, rfl, e686⟩ := hQ686
    show Ends p.tables e below _ (T686.setTop (mkF m 48 #[.val (.ref x0), .val (.ref x1), .val (.int (0 : Int32)), .val (.int (1 : Int32)), .val .null, .val (.ref b685)] [(.int (0 : Int32)), (.ref x0)]))
    have f687 := (E.keep K685)
    have f688 := (Fc.keep K685 nin0)
    refine own_putfield X686 hx hby hZ hown (host := "") (Or.inl (hw _ tw_42)) Via.refl e686 f688 f687 (Or.inr ⟨(hw _ tw_7), rfl, hnm⟩) (hw _ tw_4) (ty := .byte) (by decide) rfl rfl (Fr.app (Fr.app N0 N685q) (Fr.nil _)) gx  d4_48 rfl (fun T689 h689 L689 X689 e689 W689 N689 => ?_)
    have F689 := f688.same W689
    refine own_aloadN X689 hx hby d4_51 rfl rfl rfl ?_
    refine own_aload X689 hx hby d4_52 rfl rfl rfl ?_
    have f690 := (f687.wr W689)
    have f691 := ((Fv.keep K685 nin0).other W689 (Or.inr (slot_ne (Or.inr (hw _ tw_6)) (Or.inr (hw _ tw_7)) (by decide) (t := (.array .byte)) (t' := .byte) (by decide) (by decide))))
    refine own_putfield X689 hx hby hZ hown (host := "") (Or.inl (hw _ tw_19)) Via.refl e689 f691 f690 (Or.inr ⟨(hw _ tw_6), rfl, hnm⟩) (hw _ tw_4) (ty := (.array .byte)) (by decide) rfl rfl N689 gx  d4_54 rfl (fun T692 h692 L692 X692 e692 W692 N692 => ?_)
    have F692 := f691.same W692
    refine own_retV X692 hx hby hret hlk d4_57 (by decide) (by decide) ?_
    rw [e692]
    have f693 := ((((Keep.refl h0 [x0]).trans K685 all0).wr W689 (Or.inl (by simp))).wr W692 (Or.inl (by simp)))
    have f694 := (F689.other W692 (Or.inr (slot_ne (Or.inr (hw _ tw_7)) (Or.inr (hw _ tw_6)) (by decide) (t := .byte) (t' := (.array .byte)) (by decide) (by decide))))
    have f695 := ((V685.other W689 (Ne.symm (Nat.ne_of_lt (Nat.lt_of_lt_of_le E.lt sq685)))).other W692 (Ne.symm (Nat.ne_of_lt (Nat.lt_of_lt_of_le E.lt sq685))))
    exact ⟨b685, _, rfl, N692, f693, F692, Or.inl ⟨al685, f694, f695⟩⟩
  · -- wide
    show Ends p.tables e below _ (T685.setTop (mkF m 39 #[.val (.ref x0), .val (.ref x1), .val (.int (0 : Int32)), .val (.int (1 : Int32)), .val .null, .unset] [(.ref b685)]))
    refine own_astore X685 hx hby d4_39 rfl #[.val (.ref x0), .val (.ref x1), .val (.int (0 : Int32)), .val (.int (1 : Int32)), .val .null, .val (.ref b685)] rfl rfl ?_
    refine own_aloadN X685 hx hby d4_41 rfl rfl rfl ?_
    refine own_aload X685 hx hby d4_42 rfl rfl rfl ?_
    refine own_iloadN X685 hx hby d4_44 rfl rfl ?_
    refine own_static X685 hx hby hZ (argsL := [(.ref b685), (.int (1 : Int32))]) (rest := [(.ref x0)]) hown (hw _ tw_39) (hw _ tw_40) (hw _ tw_34) (hw _ tw_41) (by decide) (rmcal1_1 l Z a0 hw b685 T685.heap V685) rfl (by rw [hml]; rfl) pd_15 rfl (by decide) (W := 1) (Nat.le_refl _) (by decide) (by decide) (by decide) d4_45 rfl rfl (fun v696 T696 L696 X696 hQ696 => ?_)
    obtain ⟨rfl, rfl, e696⟩ := hQ696
    show Ends p.tables e below _ (T696.setTop (mkF m 48 #[.val (.ref x0), .val (.ref x1), .val (.int (0 : Int32)), .val (.int (1 : Int32)), .val .null, .val (.ref b685)] [(.int (1 : Int32)), (.ref x0)]))
    have f697 := (E.keep K685)
    have f698 := (Fc.keep K685 nin0)
    refine own_putfield X696 hx hby hZ hown (host := "") (Or.inl (hw _ tw_42)) Via.refl e696 f698 f697 (Or.inr ⟨(hw _ tw_7), rfl, hnm⟩) (hw _ tw_4) (ty := .byte) (by decide) rfl rfl (Fr.app (Fr.app N0 N685q) (Fr.nil _)) gx  d4_48 rfl (fun T699 h699 L699 X699 e699 W699 N699 => ?_)
    have F699 := f698.same W699
    refine own_aloadN X699 hx hby d4_51 rfl rfl rfl ?_
    refine own_aload X699 hx hby d4_52 rfl rfl rfl ?_
    have f700 := (f697.wr W699)
    have f701 := ((Fv.keep K685 nin0).other W699 (Or.inr (slot_ne (Or.inr (hw _ tw_6)) (Or.inr (hw _ tw_7)) (by decide) (t := (.array .byte)) (t' := .byte) (by decide) (by decide))))
    refine own_putfield X699 hx hby hZ hown (host := "") (Or.inl (hw _ tw_19)) Via.refl e699 f701 f700 (Or.inr ⟨(hw _ tw_6), rfl, hnm⟩) (hw _ tw_4) (ty := (.array .byte)) (by decide) rfl rfl N699 gx  d4_54 rfl (fun T702 h702 L702 X702 e702 W702 N702 => ?_)
    have F702 := f701.same W702
    refine own_retV X702 hx hby hret hlk d4_57 (by decide) (by decide) ?_
    rw [e702]
    have f703 := ((((Keep.refl h0 [x0]).trans K685 all0).wr W699 (Or.inl (by simp))).wr W702 (Or.inl (by simp)))
    have f704 := (F699.other W702 (Or.inr (slot_ne (Or.inr (hw _ tw_7)) (Or.inr (hw _ tw_6)) (by decide) (t := .byte) (t' := (.array .byte)) (by decide) (by decide))))
    have f705 := ((V685.other W699 (Ne.symm (Nat.ne_of_lt (Nat.lt_of_lt_of_le E.lt sq685)))).other W702 (Ne.symm (Nat.ne_of_lt (Nat.lt_of_lt_of_le E.lt sq685))))
    exact ⟨b685, _, rfl, N702, f703, F702, Or.inr ⟨f704, f705⟩⟩
set_option maxRecDepth 65536 in
set_option maxHeartbeats 40000000 in
theorem rmi1_1 (l : Launch) (Z : State) (a0 : Array Value) (hw : ∀ d ∈ tables_1, d.before a0 Z = true) (x0 : Addr) (x1 : Addr) (h0 : Heap) (n0 : Nat) {ks : Int32} {fm : Value} (G : OwnGl Z ks fm) (gx : n0 ≤ x0) (E : Exa Z h0 x0 "java/lang/String") (Fc : Fld Z h0 x0 "java/lang/String" "coder" "B" (.int (0 : Int32))) (Fv : Fld Z h0 x0 "java/lang/String" "value" "[B" .null) (O : Old Z n0 h0) {ka : ClassId} {y0 : Int32} (hr0 : 0 ≤ y0.toInt ∧ y0.toInt < 65536) (Va : Arv Z h0 x1 ka .char (1 : Int32) [(.int y0)] (.int 0)) :
    OwnMet l Z (⟨"java/lang/String", "<init>", "([C)V"⟩ : MethodName) jdk_42_method_3_code 2 none [] ({ frames := 5, cells := 2, slots := 3, locals := 78 } : Room) #[(.ref x0), (.ref x1)] h0 (fun v h L => ∃ b k, v = none ∧ Fr n0 L ∧ Keep h0 h [x0] ∧ Fld Z h x0 "java/lang/String" "value" "[B" (.ref b) ∧ (((y0.toInt ≤ 255) ∧ Fld Z h x0 "java/lang/String" "coder" "B" (.int (0 : Int32)) ∧ Arv Z h b k .byte (1 : Int32) [(.int y0.toInt8.toInt32)] (.int 0)) ∨ (Fld Z h x0 "java/lang/String" "coder" "B" (.int (1 : Int32)) ∧ Arv Z h b k .byte (2 : Int32) [(.int (y0 >>> ((0 : Int32) &&& 31)).toInt8.toInt32), (.int (y0 >>> ((8 : Int32) &&& 31)).toInt8.toInt32)] (.int 0)))) := by
  refine own_body (plainFor_of_name pn_3) (fun m => ef_i1_1 m x0 x1) ?_
  intro p e s m below meth c s₁ X0 hx hby hml hown hnm hret hlk hZ e0
  replace hown : s.vm.findClass "java/lang/String" = some m.cls := hown
  replace hml : c.maxLocals = 2 := hml
  have N0 := Fr.nil n0
  show Ends p.tables e below _ (s₁.setTop (mkF m 0 #[.val (.ref x0), .val (.ref x1)] []))
  refine own_aloadN X0 hx hby d3_0 rfl rfl rfl ?_
  refine own_aloadN X0 hx hby d3_1 rfl rfl rfl ?_
  refine own_iconst X0 hx hby d3_2 rfl (0 : Int32) rfl ?_
  refine own_aloadN X0 hx hby d3_3 rfl rfl rfl ?_
  refine own_arraylength X0 hx hby hZ e0 Va d3_4 rfl ?_
  refine own_aconstNull X0 hx hby d3_5 rfl ?_
  refine own_special X0 hx hby hZ (a := x0) (argsL := [(.ref x1), (.int (0 : Int32)), (.int (1 : Int32)), .null]) (rest := []) hown rfl (hw _ tw_24) (hw _ tw_25) (hw _ tw_3) (hw _ tw_27) (by decide) (rmi4_1 l Z a0 hw x0 x1 h0 n0 G gx E Fc Fv O hr0 Va) e0 (by rw [hml]; rfl) pd_16 rfl (by decide) (W := 0) (Nat.le_refl _) (by decide) (by decide) (by decide) d3_6 rfl rfl (fun v706 T706 L706 X706 hQ706 => ?_)
  rcases hQ706 with ⟨b706, k706, rfl, N706q, K706, D706, (⟨al706, B706, V706⟩ | ⟨B706, V706⟩)⟩
  · -- latin
    show Ends p.tables e below _ (T706.setTop (mkF m 9 #[.val (.ref x0), .val (.ref x1)] []))
    refine own_retV X706 hx hby hret hlk d3_9 (by decide) (by decide) ?_
    have f707 := ((Keep.refl h0 [x0]).trans K706 (allS (Or.inl (by simp)) all0))
    exact ⟨b706, _, rfl, (Fr.app N0 N706q), f707, D706, Or.inl ⟨al706, B706, V706⟩⟩
  · -- wide
    show Ends p.tables e below _ (T706.setTop (mkF m 9 #[.val (.ref x0), .val (.ref x1)] []))
    refine own_retV X706 hx hby hret hlk d3_9 (by decide) (by decide) ?_
    have f708 := ((Keep.refl h0 [x0]).trans K706 (allS (Or.inl (by simp)) all0))
    exact ⟨b706, _, rfl, (Fr.app N0 N706q), f708, D706, Or.inr ⟨B706, V706⟩⟩
set_option maxRecDepth 65536 in
set_option maxHeartbeats 40000000 in
theorem rmi4_2 (l : Launch) (Z : State) (a0 : Array Value) (hw : ∀ d ∈ tables_1, d.before a0 Z = true) (x0 : Addr) (x1 : Addr) (h0 : Heap) (n0 : Nat) {ks : Int32} {fm : Value} (G : OwnGl Z ks fm) (gx : n0 ≤ x0) (E : Exa Z h0 x0 "java/lang/String") (Fc : Fld Z h0 x0 "java/lang/String" "coder" "B" (.int (0 : Int32))) (Fv : Fld Z h0 x0 "java/lang/String" "value" "[B" .null) (O : Old Z n0 h0) {ka : ClassId} {y0 y1 : Int32} (hr0 : 0 ≤ y0.toInt ∧ y0.toInt < 65536) (hr1 : 0 ≤ y1.toInt ∧ y1.toInt < 65536) (Va : Arv Z h0 x1 ka .char (2 : Int32) [(.int y0), (.int y1)] (.int 0)) :
    OwnMet l Z (⟨"java/lang/String", "<init>", "([CIILjava/lang/Void;)V"⟩ : MethodName) jdk_42_method_149_code 6 none [] ({ frames := 4, cells := 2, slots := 6, locals := 61 } : Room) #[(.ref x0), (.ref x1), (.int (0 : Int32)), (.int (2 : Int32)), .null] h0 (fun v h L => ∃ b k, v = none ∧ Fr n0 L ∧ Keep h0 h [x0] ∧ Fld Z h x0 "java/lang/String" "value" "[B" (.ref b) ∧ (((y0.toInt ≤ 255 ∧ y1.toInt ≤ 255) ∧ Fld Z h x0 "java/lang/String" "coder" "B" (.int (0 : Int32)) ∧ Arv Z h b k .byte (2 : Int32) [(.int y0.toInt8.toInt32), (.int y1.toInt8.toInt32)] (.int 0)) ∨ (Fld Z h x0 "java/lang/String" "coder" "B" (.int (1 : Int32)) ∧ Arv Z h b k .byte (4 : Int32) [(.int (y0 >>> ((0 : Int32) &&& 31)).toInt8.toInt32), (.int (y0 >>> ((8 : Int32) &&& 31)).toInt8.toInt32), (.int (y1 >>> ((0 : Int32) &&& 31)).toInt8.toInt32), (.int (y1 >>> ((8 : Int32) &&& 31)).toInt8.toInt32)] (.int 0)))) := by
  refine own_body (plainFor_of_name pn_3) (fun m => ef_i4_2 m x0 x1) ?_
  intro p e s m below meth c s₁ X0 hx hby hml hown hnm hret hlk hZ e0
  replace hown : s.vm.findClass "java/lang/String" = some m.cls := hown
  replace hml : c.maxLocals = 6 := hml
  have N0 := Fr.nil n0
  show Ends p.tables e below _ (s₁.setTop (mkF m 0 #[.val (.ref x0), .val (.ref x1), .val (.int (0 : Int32)), .val (.int (2 : Int32)), .val .null, .unset] []))
  refine own_aloadN X0 hx hby d4_0 rfl rfl rfl ?_
  refine own_initO X0 hx hby hZ hown (hw _ tw_28) (hw _ tw_29) (hw _ tw_30) e0 (by rw [hml]; rfl) (by decide) (W := 0) (Nat.le_refl _) (by decide) d4_1 rfl (fun T709 X709 e709 => ?_)
  refine own_iloadN X709 hx hby d4_4 rfl rfl ?_
  refine own_if_ne X709 hx hby d4_5 (pcY := 27) (pcN := 8) (by decide) rfl (fun (hc710 : ¬ (2 : Int32) = (0 : Int32)) => ?_) (fun (hc710 : (2 : Int32) = (0 : Int32)) => False.elim (by exact absurd hc710 (by decide)))
  refine own_getstatic X709 hx hby hZ hown (host := "") (Or.inl (hw _ tw_31)) Via.refl e709 (G.2.2.1.ext (O).2) d4_27 rfl (fun T711 X711 e711 => ?_)
  refine own_if_eq X711 hx hby d4_30 (pcY := 58) (pcN := 33) (by decide) rfl (fun (hc712 : ks = (0 : Int32)) => False.elim (by exact G.1 hc712)) (fun (hc712 : ¬ ks = (0 : Int32)) => ?_)
  refine own_aloadN X711 hx hby d4_33 rfl rfl rfl ?_
  refine own_iloadN X711 hx hby d4_34 rfl rfl ?_
  refine own_iloadN X711 hx hby d4_35 rfl rfl ?_
  refine own_static X711 hx hby hZ (argsL := [(.ref x1), (.int (0 : Int32)), (.int (2 : Int32))]) (rest := []) hown (hw _ tw_32) (hw _ tw_33) (hw _ tw_34) (hw _ tw_35) (by decide) (rmc1_2 l Z a0 hw x1 h0 n0 G O hr0 hr1 Va) e711 (by rw [hml]; rfl) pd_14 rfl (by decide) (W := 0) (Nat.le_refl _) (by decide) (by decide) (by decide) d4_36 rfl rfl (fun v713 T713 L713 X713 hQ713 => ?_)
  rcases hQ713 with ⟨b713, k713, rfl, N713q, K713, sq713, gq713, (⟨al713, V713⟩ | V713)⟩
  · -- latin
    show Ends p.tables e below _ (T713.setTop (mkF m 39 #[.val (.ref x0), .val (.ref x1), .val (.int (0 : Int32)), .val (.int (2 : Int32)), .val .null, .unset] [(.ref b713)]))
    refine own_astore X713 hx hby d4_39 rfl #[.val (.ref x0), .val (.ref x1), .val (.int (0 : Int32)), .val (.int (2 : Int32)), .val .null, .val (.ref b713)] rfl rfl ?_
    refine own_aloadN X713 hx hby d4_41 rfl rfl rfl ?_
    refine own_aload X713 hx hby d4_42 rfl rfl rfl ?_
    refine own_iloadN X713 hx hby d4_44 rfl rfl ?_
    refine own_static X713 hx hby hZ (argsL := [(.ref b713), (.int (2 : Int32))]) (rest := [(.ref x0)]) hown (hw _ tw_39) (hw _ tw_40) (hw _ tw_34) (hw _ tw_41) (by decide) (rmcal0_2 l Z a0 hw b713 T713.heap V713) rfl (by rw [hml]; rfl) pd_15 rfl (by decide) (W := 1) (Nat.le_refl _) (by decide) (by decide) (by decide) d4_45 rfl rfl (fun v714 T714 L714 X714 hQ714 => ?_)
    obtain ⟨rfl, rfl, e714⟩ := hQ714
    show Ends p.tables e below _ (T714.setTop (mkF m 48 #[.val (.ref x0), .val (.ref x1), .val (.int (0 : Int32)), .val (.int (2 : Int32)), .val .null, .val (.ref b713)] [(.int (0 : Int32)), (.ref x0)]))
    have f715 := (E.keep K713)
    have f716 := (Fc.keep K713 nin0)
    refine own_putfield X714 hx hby hZ hown (host := "") (Or.inl (hw _ tw_42)) Via.refl e714 f716 f715 (Or.inr ⟨(hw _ tw_7), rfl, hnm⟩) (hw _ tw_4) (ty := .byte) (by decide) rfl rfl (Fr.app (Fr.app N0 N713q) (Fr.nil _)) gx  d4_48 rfl (fun T717 h717 L717 X717 e717 W717 N717 => ?_)
    have F717 := f716.same W717
    refine own_aloadN X717 hx hby d4_51 rfl rfl rfl ?_
    refine own_aload X717 hx hby d4_52 rfl rfl rfl ?_
    have f718 := (f715.wr W717)
    have f719 := ((Fv.keep K713 nin0).other W717 (Or.inr (slot_ne (Or.inr (hw _ tw_6)) (Or.inr (hw _ tw_7)) (by decide) (t := (.array .byte)) (t' := .byte) (by decide) (by decide))))
    refine own_putfield X717 hx hby hZ hown (host := "") (Or.inl (hw _ tw_19)) Via.refl e717 f719 f718 (Or.inr ⟨(hw _ tw_6), rfl, hnm⟩) (hw _ tw_4) (ty := (.array .byte)) (by decide) rfl rfl N717 gx  d4_54 rfl (fun T720 h720 L720 X720 e720 W720 N720 => ?_)
    have F720 := f719.same W720
    refine own_retV X720 hx hby hret hlk d4_57 (by decide) (by decide) ?_
    rw [e720]
    have f721 := ((((Keep.refl h0 [x0]).trans K713 all0).wr W717 (Or.inl (by simp))).wr W720 (Or.inl (by simp)))
    have f722 := (F717.other W720 (Or.inr (slot_ne (Or.inr (hw _ tw_7)) (Or.inr (hw _ tw_6)) (by decide) (t := .byte) (t' := (.array .byte)) (by decide) (by decide))))
    have f723 := ((V713.other W717 (Ne.symm (Nat.ne_of_lt (Nat.lt_of_lt_of_le E.lt sq713)))).other W720 (Ne.symm (Nat.ne_of_lt (Nat.lt_of_lt_of_le E.lt sq713))))
    exact ⟨b713, _, rfl, N720, f721, F720, Or.inl ⟨al713, f722, f723⟩⟩
  · -- wide
    show Ends p.tables e below _ (T713.setTop (mkF m 39 #[.val (.ref x0), .val (.ref x1), .val (.int (0 : Int32)), .val (.int (2 : Int32)), .val .null, .unset] [(.ref b713)]))
    refine own_astore X713 hx hby d4_39 rfl #[.val (.ref x0), .val (.ref x1), .val (.int (0 : Int32)), .val (.int (2 : Int32)), .val .null, .val (.ref b713)] rfl rfl ?_
    refine own_aloadN X713 hx hby d4_41 rfl rfl rfl ?_
    refine own_aload X713 hx hby d4_42 rfl rfl rfl ?_
    refine own_iloadN X713 hx hby d4_44 rfl rfl ?_
    refine own_static X713 hx hby hZ (argsL := [(.ref b713), (.int (2 : Int32))]) (rest := [(.ref x0)]) hown (hw _ tw_39) (hw _ tw_40) (hw _ tw_34) (hw _ tw_41) (by decide) (rmcal1_2 l Z a0 hw b713 T713.heap V713) rfl (by rw [hml]; rfl) pd_15 rfl (by decide) (W := 1) (Nat.le_refl _) (by decide) (by decide) (by decide) d4_45 rfl rfl (fun v724 T724 L724 X724 hQ724 => ?_)
    obtain ⟨rfl, rfl, e724⟩ := hQ724
    show Ends p.tables e below _ (T724.setTop (mkF m 48 #[.val (.ref x0), .val (.ref x1), .val (.int (0 : Int32)), .val (.int (2 : Int32)), .val .null, .val (.ref b713)] [(.int (1 : Int32)), (.ref x0)]))
    have f725 := (E.keep K713)
    have f726 := (Fc.keep K713 nin0)
    refine own_putfield X724 hx hby hZ hown (host := "") (Or.inl (hw _ tw_42)) Via.refl e724 f726 f725 (Or.inr ⟨(hw _ tw_7), rfl, hnm⟩) (hw _ tw_4) (ty := .byte) (by decide) rfl rfl (Fr.app (Fr.app N0 N713q) (Fr.nil _)) gx  d4_48 rfl (fun T727 h727 L727 X727 e727 W727 N727 => ?_)
    have F727 := f726.same W727
    refine own_aloadN X727 hx hby d4_51 rfl rfl rfl ?_
    refine own_aload X727 hx hby d4_52 rfl rfl rfl ?_
    have f728 := (f725.wr W727)
    have f729 := ((Fv.keep K713 nin0).other W727 (Or.inr (slot_ne (Or.inr (hw _ tw_6)) (Or.inr (hw _ tw_7)) (by decide) (t := (.array .byte)) (t' := .byte) (by decide) (by decide))))
    refine own_putfield X727 hx hby hZ hown (host := "") (Or.inl (hw _ tw_19)) Via.refl e727 f729 f728 (Or.inr ⟨(hw _ tw_6), rfl, hnm⟩) (hw _ tw_4) (ty := (.array .byte)) (by decide) rfl rfl N727 gx  d4_54 rfl (fun T730 h730 L730 X730 e730 W730 N730 => ?_)
    have F730 := f729.same W730
    refine own_retV X730 hx hby hret hlk d4_57 (by decide) (by decide) ?_
    rw [e730]
    have f731 := ((((Keep.refl h0 [x0]).trans K713 all0).wr W727 (Or.inl (by simp))).wr W730 (Or.inl (by simp)))
    have f732 := (F727.other W730 (Or.inr (slot_ne (Or.inr (hw _ tw_7)) (Or.inr (hw _ tw_6)) (by decide) (t := .byte) (t' := (.array .byte)) (by decide) (by decide))))
    have f733 := ((V713.other W727 (Ne.symm (Nat.ne_of_lt (Nat.lt_of_lt_of_le E.lt sq713)))).other W730 (Ne.symm (Nat.ne_of_lt (Nat.lt_of_lt_of_le E.lt sq713))))
    exact ⟨b713, _, rfl, N730, f731, F730, Or.inr ⟨f732, f733⟩⟩
set_option maxRecDepth 65536 in
set_option maxHeartbeats 40000000 in
theorem rmi1_2 (l : Launch) (Z : State) (a0 : Array Value) (hw : ∀ d ∈ tables_1, d.before a0 Z = true) (x0 : Addr) (x1 : Addr) (h0 : Heap) (n0 : Nat) {ks : Int32} {fm : Value} (G : OwnGl Z ks fm) (gx : n0 ≤ x0) (E : Exa Z h0 x0 "java/lang/String") (Fc : Fld Z h0 x0 "java/lang/String" "coder" "B" (.int (0 : Int32))) (Fv : Fld Z h0 x0 "java/lang/String" "value" "[B" .null) (O : Old Z n0 h0) {ka : ClassId} {y0 y1 : Int32} (hr0 : 0 ≤ y0.toInt ∧ y0.toInt < 65536) (hr1 : 0 ≤ y1.toInt ∧ y1.toInt < 65536) (Va : Arv Z h0 x1 ka .char (2 : Int32) [(.int y0), (.int y1)] (.int 0)) :
    OwnMet l Z (⟨"java/lang/String", "<init>", "([C)V"⟩ : MethodName) jdk_42_method_3_code 2 none [] ({ frames := 5, cells := 2, slots := 6, locals := 78 } : Room) #[(.ref x0), (.ref x1)] h0 (fun v h L => ∃ b k, v = none ∧ Fr n0 L ∧ Keep h0 h [x0] ∧ Fld Z h x0 "java/lang/String" "value" "[B" (.ref b) ∧ (((y0.toInt ≤ 255 ∧ y1.toInt ≤ 255) ∧ Fld Z h x0 "java/lang/String" "coder" "B" (.int (0 : Int32)) ∧ Arv Z h b k .byte (2 : Int32) [(.int y0.toInt8.toInt32), (.int y1.toInt8.toInt32)] (.int 0)) ∨ (Fld Z h x0 "java/lang/String" "coder" "B" (.int (1 : Int32)) ∧ Arv Z h b k .byte (4 : Int32) [(.int (y0 >>> ((0 : Int32) &&& 31)).toInt8.toInt32), (.int (y0 >>> ((8 : Int32) &&& 31)).toInt8.toInt32), (.int (y1 >>> ((0 : Int32) &&& 31)).toInt8.toInt32), (.int (y1 >>> ((8 : Int32) &&& 31)).toInt8.toInt32)] (.int 0)))) := by
  refine own_body (plainFor_of_name pn_3) (fun m => ef_i1_2 m x0 x1) ?_
  intro p e s m below meth c s₁ X0 hx hby hml hown hnm hret hlk hZ e0
  replace hown : s.vm.findClass "java/lang/String" = some m.cls := hown
  replace hml : c.maxLocals = 2 := hml
  have N0 := Fr.nil n0
  show Ends p.tables e below _ (s₁.setTop (mkF m 0 #[.val (.ref x0), .val (.ref x1)] []))
  refine own_aloadN X0 hx hby d3_0 rfl rfl rfl ?_
  refine own_aloadN X0 hx hby d3_1 rfl rfl rfl ?_
  refine own_iconst X0 hx hby d3_2 rfl (0 : Int32) rfl ?_
  refine own_aloadN X0 hx hby d3_3 rfl rfl rfl ?_
  refine own_arraylength X0 hx hby hZ e0 Va d3_4 rfl ?_
  refine own_aconstNull X0 hx hby d3_5 rfl ?_
  refine own_special X0 hx hby hZ (a := x0) (argsL := [(.ref x1), (.int (0 : Int32)), (.int (2 : Int32)), .null]) (rest := []) hown rfl (hw _ tw_24) (hw _ tw_25) (hw _ tw_3) (hw _ tw_27) (by decide) (rmi4_2 l Z a0 hw x0 x1 h0 n0 G gx E Fc Fv O hr0 hr1 Va) e0 (by rw [hml]; rfl) pd_16 rfl (by decide) (W := 0) (Nat.le_refl _) (by decide) (by decide) (by decide) d3_6 rfl rfl (fun v734 T734 L734 X734 hQ734 => ?_)
  rcases hQ734 with ⟨b734, k734, rfl, N734q, K734, D734, (⟨al734, B734, V734⟩ | ⟨B734, V734⟩)⟩
  · -- latin
    show Ends p.tables e below _ (T734.setTop (mkF m 9 #[.val (.ref x0), .val (.ref x1)] []))
    refine own_retV X734 hx hby hret hlk d3_9 (by decide) (by decide) ?_
    have f735 := ((Keep.refl h0 [x0]).trans K734 (allS (Or.inl (by simp)) all0))
    exact ⟨b734, _, rfl, (Fr.app N0 N734q), f735, D734, Or.inl ⟨al734, B734, V734⟩⟩
  · -- wide
    show Ends p.tables e below _ (T734.setTop (mkF m 9 #[.val (.ref x0), .val (.ref x1)] []))
    refine own_retV X734 hx hby hret hlk d3_9 (by decide) (by decide) ?_
    have f736 := ((Keep.refl h0 [x0]).trans K734 (allS (Or.inl (by simp)) all0))
    exact ⟨b734, _, rfl, (Fr.app N0 N734q), f736, D734, Or.inr ⟨B734, V734⟩⟩
set_option maxRecDepth 65536 in
set_option maxHeartbeats 40000000 in
theorem rmi4_3 (l : Launch) (Z : State) (a0 : Array Value) (hw : ∀ d ∈ tables_1, d.before a0 Z = true) (x0 : Addr) (x1 : Addr) (h0 : Heap) (n0 : Nat) {ks : Int32} {fm : Value} (G : OwnGl Z ks fm) (gx : n0 ≤ x0) (E : Exa Z h0 x0 "java/lang/String") (Fc : Fld Z h0 x0 "java/lang/String" "coder" "B" (.int (0 : Int32))) (Fv : Fld Z h0 x0 "java/lang/String" "value" "[B" .null) (O : Old Z n0 h0) {ka : ClassId} {y0 y1 y2 : Int32} (hr0 : 0 ≤ y0.toInt ∧ y0.toInt < 65536) (hr1 : 0 ≤ y1.toInt ∧ y1.toInt < 65536) (hr2 : 0 ≤ y2.toInt ∧ y2.toInt < 65536) (Va : Arv Z h0 x1 ka .char (3 : Int32) [(.int y0), (.int y1), (.int y2)] (.int 0)) :
    OwnMet l Z (⟨"java/lang/String", "<init>", "([CIILjava/lang/Void;)V"⟩ : MethodName) jdk_42_method_149_code 6 none [] ({ frames := 4, cells := 2, slots := 9, locals := 61 } : Room) #[(.ref x0), (.ref x1), (.int (0 : Int32)), (.int (3 : Int32)), .null] h0 (fun v h L => ∃ b k, v = none ∧ Fr n0 L ∧ Keep h0 h [x0] ∧ Fld Z h x0 "java/lang/String" "value" "[B" (.ref b) ∧ (((y0.toInt ≤ 255 ∧ y1.toInt ≤ 255 ∧ y2.toInt ≤ 255) ∧ Fld Z h x0 "java/lang/String" "coder" "B" (.int (0 : Int32)) ∧ Arv Z h b k .byte (3 : Int32) [(.int y0.toInt8.toInt32), (.int y1.toInt8.toInt32), (.int y2.toInt8.toInt32)] (.int 0)) ∨ (Fld Z h x0 "java/lang/String" "coder" "B" (.int (1 : Int32)) ∧ Arv Z h b k .byte (6 : Int32) [(.int (y0 >>> ((0 : Int32) &&& 31)).toInt8.toInt32), (.int (y0 >>> ((8 : Int32) &&& 31)).toInt8.toInt32), (.int (y1 >>> ((0 : Int32) &&& 31)).toInt8.toInt32), (.int (y1 >>> ((8 : Int32) &&& 31)).toInt8.toInt32), (.int (y2 >>> ((0 : Int32) &&& 31)).toInt8.toInt32), (.int (y2 >>> ((8 : Int32) &&& 31)).toInt8.toInt32)] (.int 0)))) := by
  refine own_body (plainFor_of_name pn_3) (fun m => ef_i4_3 m x0 x1) ?_
  intro p e s m below meth c s₁ X0 hx hby hml hown hnm hret hlk hZ e0
  replace hown : s.vm.findClass "java/lang/String" = some m.cls := hown
  replace hml : c.maxLocals = 6 := hml
  have N0 := Fr.nil n0
  show Ends p.tables e below _ (s₁.setTop (mkF m 0 #[.val (.ref x0), .val (.ref x1), .val (.int (0 : Int32)), .val (.int (3 : Int32)), .val .null, .unset] []))
  refine own_aloadN X0 hx hby d4_0 rfl rfl rfl ?_
  refine own_initO X0 hx hby hZ hown (hw _ tw_28) (hw _ tw_29) (hw _ tw_30) e0 (by rw [hml]; rfl) (by decide) (W := 0) (Nat.le_refl _) (by decide) d4_1 rfl (fun T737 X737 e737 => ?_)
  refine own_iloadN X737 hx hby d4_4 rfl rfl ?_
  refine own_if_ne X737 hx hby d4_5 (pcY := 27) (pcN := 8) (by decide) rfl (fun (hc738 : ¬ (3 : Int32) = (0 : Int32)) => ?_) (fun (hc738 : (3 : Int32) = (0 : Int32)) => False.elim (by exact absurd hc738 (by decide)))
  refine own_getstatic X737 hx hby hZ hown (host := "") (Or.inl (hw _ tw_31)) Via.refl e737 (G.2.2.1.ext (O).2) d4_27 rfl (fun T739 X739 e739 => ?_)
  refine own_if_eq X739 hx hby d4_30 (pcY := 58) (pcN := 33) (by decide) rfl (fun (hc740 : ks = (0 : Int32)) => False.elim (by exact G.1 hc740)) (fun (hc740 : ¬ ks = (0 : Int32)) => ?_)
  refine own_aloadN X739 hx hby d4_33 rfl rfl rfl ?_
  refine own_iloadN X739 hx hby d4_34 rfl rfl ?_
  refine own_iloadN X739 hx hby d4_35 rfl rfl ?_
  refine own_static X739 hx hby hZ (argsL := [(.ref x1), (.int (0 : Int32)), (.int (3 : Int32))]) (rest := []) hown (hw _ tw_32) (hw _ tw_33) (hw _ tw_34) (hw _ tw_35) (by decide) (rmc1_3 l Z a0 hw x1 h0 n0 G O hr0 hr1 hr2 Va) e739 (by rw [hml]; rfl) pd_14 rfl (by decide) (W := 0) (Nat.le_refl _) (by decide) (by decide) (by decide) d4_36 rfl rfl (fun v741 T741 L741 X741 hQ741 => ?_)
  rcases hQ741 with ⟨b741, k741, rfl, N741q, K741, sq741, gq741, (⟨al741, V741⟩ | V741)⟩
  · -- latin
    show Ends p.tables e below _ (T741.setTop (mkF m 39 #[.val (.ref x0), .val (.ref x1), .val (.int (0 : Int32)), .val (.int (3 : Int32)), .val .null, .unset] [(.ref b741)]))
    refine own_astore X741 hx hby d4_39 rfl #[.val (.ref x0), .val (.ref x1), .val (.int (0 : Int32)), .val (.int (3 : Int32)), .val .null, .val (.ref b741)] rfl rfl ?_
    refine own_aloadN X741 hx hby d4_41 rfl rfl rfl ?_
    refine own_aload X741 hx hby d4_42 rfl rfl rfl ?_
    refine own_iloadN X741 hx hby d4_44 rfl rfl ?_
    refine own_static X741 hx hby hZ (argsL := [(.ref b741), (.int (3 : Int32))]) (rest := [(.ref x0)]) hown (hw _ tw_39) (hw _ tw_40) (hw _ tw_34) (hw _ tw_41) (by decide) (rmcal0_3 l Z a0 hw b741 T741.heap V741) rfl (by rw [hml]; rfl) pd_15 rfl (by decide) (W := 1) (Nat.le_refl _) (by decide) (by decide) (by decide) d4_45 rfl rfl (fun v742 T742 L742 X742 hQ742 => ?_)
    obtain ⟨rfl, rfl, e742⟩ := hQ742
    show Ends p.tables e below _ (T742.setTop (mkF m 48 #[.val (.ref x0), .val (.ref x1), .val (.int (0 : Int32)), .val (.int (3 : Int32)), .val .null, .val (.ref b741)] [(.int (0 : Int32)), (.ref x0)]))
    have f743 := (E.keep K741)
    have f744 := (Fc.keep K741 nin0)
    refine own_putfield X742 hx hby hZ hown (host := "") (Or.inl (hw _ tw_42)) Via.refl e742 f744 f743 (Or.inr ⟨(hw _ tw_7), rfl, hnm⟩) (hw _ tw_4) (ty := .byte) (by decide) rfl rfl (Fr.app (Fr.app N0 N741q) (Fr.nil _)) gx  d4_48 rfl (fun T745 h745 L745 X745 e745 W745 N745 => ?_)
    have F745 := f744.same W745
    refine own_aloadN X745 hx hby d4_51 rfl rfl rfl ?_
    refine own_aload X745 hx hby d4_52 rfl rfl rfl ?_
    have f746 := (f743.wr W745)
    have f747 := ((Fv.keep K741 nin0).other W745 (Or.inr (slot_ne (Or.inr (hw _ tw_6)) (Or.inr (hw _ tw_7)) (by decide) (t := (.array .byte)) (t' := .byte) (by decide) (by decide))))
    refine own_putfield X745 hx hby hZ hown (host := "") (Or.inl (hw _ tw_19)) Via.refl e745 f747 f746 (Or.inr ⟨(hw _ tw_6), rfl, hnm⟩) (hw _ tw_4) (ty := (.array .byte)) (by decide) rfl rfl N745 gx  d4_54 rfl (fun T748 h748 L748 X748 e748 W748 N748 => ?_)
    have F748 := f747.same W748
    refine own_retV X748 hx hby hret hlk d4_57 (by decide) (by decide) ?_
    rw [e748]
    have f749 := ((((Keep.refl h0 [x0]).trans K741 all0).wr W745 (Or.inl (by simp))).wr W748 (Or.inl (by simp)))
    have f750 := (F745.other W748 (Or.inr (slot_ne (Or.inr (hw _ tw_7)) (Or.inr (hw _ tw_6)) (by decide) (t := .byte) (t' := (.array .byte)) (by decide) (by decide))))
    have f751 := ((V741.other W745 (Ne.symm (Nat.ne_of_lt (Nat.lt_of_lt_of_le E.lt sq741)))).other W748 (Ne.symm (Nat.ne_of_lt (Nat.lt_of_lt_of_le E.lt sq741))))
    exact ⟨b741, _, rfl, N748, f749, F748, Or.inl ⟨al741, f750, f751⟩⟩
  · -- wide
    show Ends p.tables e below _ (T741.setTop (mkF m 39 #[.val (.ref x0), .val (.ref x1), .val (.int (0 : Int32)), .val (.int (3 : Int32)), .val .null, .unset] [(.ref b741)]))
    refine own_astore X741 hx hby d4_39 rfl #[.val (.ref x0), .val (.ref x1), .val (.int (0 : Int32)), .val (.int (3 : Int32)), .val .null, .val (.ref b741)] rfl rfl ?_
    refine own_aloadN X741 hx hby d4_41 rfl rfl rfl ?_
    refine own_aload X741 hx hby d4_42 rfl rfl rfl ?_
    refine own_iloadN X741 hx hby d4_44 rfl rfl ?_
    refine own_static X741 hx hby hZ (argsL := [(.ref b741), (.int (3 : Int32))]) (rest := [(.ref x0)]) hown (hw _ tw_39) (hw _ tw_40) (hw _ tw_34) (hw _ tw_41) (by decide) (rmcal1_3 l Z a0 hw b741 T741.heap V741) rfl (by rw [hml]; rfl) pd_15 rfl (by decide) (W := 1) (Nat.le_refl _) (by decide) (by decide) (by decide) d4_45 rfl rfl (fun v752 T752 L752 X752 hQ752 => ?_)
    obtain ⟨rfl, rfl, e752⟩ := hQ752
    show Ends p.tables e below _ (T752.setTop (mkF m 48 #[.val (.ref x0), .val (.ref x1), .val (.int (0 : Int32)), .val (.int (3 : Int32)), .val .null, .val (.ref b741)] [(.int (1 : Int32)), (.ref x0)]))
    have f753 := (E.keep K741)
    have f754 := (Fc.keep K741 nin0)
    refine own_putfield X752 hx hby hZ hown (host := "") (Or.inl (hw _ tw_42)) Via.refl e752 f754 f753 (Or.inr ⟨(hw _ tw_7), rfl, hnm⟩) (hw _ tw_4) (ty := .byte) (by decide) rfl rfl (Fr.app (Fr.app N0 N741q) (Fr.nil _)) gx  d4_48 rfl (fun T755 h755 L755 X755 e755 W755 N755 => ?_)
    have F755 := f754.same W755
    refine own_aloadN X755 hx hby d4_51 rfl rfl rfl ?_
    refine own_aload X755 hx hby d4_52 rfl rfl rfl ?_
    have f756 := (f753.wr W755)
    have f757 := ((Fv.keep K741 nin0).other W755 (Or.inr (slot_ne (Or.inr (hw _ tw_6)) (Or.inr (hw _ tw_7)) (by decide) (t := (.array .byte)) (t' := .byte) (by decide) (by decide))))
    refine own_putfield X755 hx hby hZ hown (host := "") (Or.inl (hw _ tw_19)) Via.refl e755 f757 f756 (Or.inr ⟨(hw _ tw_6), rfl, hnm⟩) (hw _ tw_4) (ty := (.array .byte)) (by decide) rfl rfl N755 gx  d4_54 rfl (fun T758 h758 L758 X758 e758 W758 N758 => ?_)
    have F758 := f757.same W758
    refine own_retV X758 hx hby hret hlk d4_57 (by decide) (by decide) ?_
    rw [e758]
    have f759 := ((((Keep.refl h0 [x0]).trans K741 all0).wr W755 (Or.inl (by simp))).wr W758 (Or.inl (by simp)))
    have f760 := (F755.other W758 (Or.inr (slot_ne (Or.inr (hw _ tw_7)) (Or.inr (hw _ tw_6)) (by decide) (t := .byte) (t' := (.array .byte)) (by decide) (by decide))))
    have f761 := ((V741.other W755 (Ne.symm (Nat.ne_of_lt (Nat.lt_of_lt_of_le E.lt sq741)))).other W758 (Ne.symm (Nat.ne_of_lt (Nat.lt_of_lt_of_le E.lt sq741))))
    exact ⟨b741, _, rfl, N758, f759, F758, Or.inr ⟨f760, f761⟩⟩
set_option maxRecDepth 65536 in
set_option maxHeartbeats 40000000 in
theorem rmi1_3 (l : Launch) (Z : State) (a0 : Array Value) (hw : ∀ d ∈ tables_1, d.before a0 Z = true) (x0 : Addr) (x1 : Addr) (h0 : Heap) (n0 : Nat) {ks : Int32} {fm : Value} (G : OwnGl Z ks fm) (gx : n0 ≤ x0) (E : Exa Z h0 x0 "java/lang/String") (Fc : Fld Z h0 x0 "java/lang/String" "coder" "B" (.int (0 : Int32))) (Fv : Fld Z h0 x0 "java/lang/String" "value" "[B" .null) (O : Old Z n0 h0) {ka : ClassId} {y0 y1 y2 : Int32} (hr0 : 0 ≤ y0.toInt ∧ y0.toInt < 65536) (hr1 : 0 ≤ y1.toInt ∧ y1.toInt < 65536) (hr2 : 0 ≤ y2.toInt ∧ y2.toInt < 65536) (Va : Arv Z h0 x1 ka .char (3 : Int32) [(.int y0), (.int y1), (.int y2)] (.int 0)) :
    OwnMet l Z (⟨"java/lang/String", "<init>", "([C)V"⟩ : MethodName) jdk_42_method_3_code 2 none [] ({ frames := 5, cells := 2, slots := 9, locals := 78 } : Room) #[(.ref x0), (.ref x1)] h0 (fun v h L => ∃ b k, v = none ∧ Fr n0 L ∧ Keep h0 h [x0] ∧ Fld Z h x0 "java/lang/String" "value" "[B" (.ref b) ∧ (((y0.toInt ≤ 255 ∧ y1.toInt ≤ 255 ∧ y2.toInt ≤ 255) ∧ Fld Z h x0 "java/lang/String" "coder" "B" (.int (0 : Int32)) ∧ Arv Z h b k .byte (3 : Int32) [(.int y0.toInt8.toInt32), (.int y1.toInt8.toInt32), (.int y2.toInt8.toInt32)] (.int 0)) ∨ (Fld Z h x0 "java/lang/String" "coder" "B" (.int (1 : Int32)) ∧ Arv Z h b k .byte (6 : Int32) [(.int (y0 >>> ((0 : Int32) &&& 31)).toInt8.toInt32), (.int (y0 >>> ((8 : Int32) &&& 31)).toInt8.toInt32), (.int (y1 >>> ((0 : Int32) &&& 31)).toInt8.toInt32), (.int (y1 >>> ((8 : Int32) &&& 31)).toInt8.toInt32), (.int (y2 >>> ((0 : Int32) &&& 31)).toInt8.toInt32), (.int (y2 >>> ((8 : Int32) &&& 31)).toInt8.toInt32)] (.int 0)))) := by
  refine own_body (plainFor_of_name pn_3) (fun m => ef_i1_3 m x0 x1) ?_
  intro p e s m below meth c s₁ X0 hx hby hml hown hnm hret hlk hZ e0
  replace hown : s.vm.findClass "java/lang/String" = some m.cls := hown
  replace hml : c.maxLocals = 2 := hml
  have N0 := Fr.nil n0
  show Ends p.tables e below _ (s₁.setTop (mkF m 0 #[.val (.ref x0), .val (.ref x1)] []))
  refine own_aloadN X0 hx hby d3_0 rfl rfl rfl ?_
  refine own_aloadN X0 hx hby d3_1 rfl rfl rfl ?_
  refine own_iconst X0 hx hby d3_2 rfl (0 : Int32) rfl ?_
  refine own_aloadN X0 hx hby d3_3 rfl rfl rfl ?_
  refine own_arraylength X0 hx hby hZ e0 Va d3_4 rfl ?_
  refine own_aconstNull X0 hx hby d3_5 rfl ?_
  refine own_special X0 hx hby hZ (a := x0) (argsL := [(.ref x1), (.int (0 : Int32)), (.int (3 : Int32)), .null]) (rest := []) hown rfl (hw _ tw_24) (hw _ tw_25) (hw _ tw_3) (hw _ tw_27) (by decide) (rmi4_3 l Z a0 hw x0 x1 h0 n0 G gx E Fc Fv O hr0 hr1 hr2 Va) e0 (by rw [hml]; rfl) pd_16 rfl (by decide) (W := 0) (Nat.le_refl _) (by decide) (by decide) (by decide) d3_6 rfl rfl (fun v762 T762 L762 X762 hQ762 => ?_)
  rcases hQ762 with ⟨b762, k762, rfl, N762q, K762, D762, (⟨al762, B762, V762⟩ | ⟨B762, V762⟩)⟩
  · -- latin
    show Ends p.tables e below _ (T762.setTop (mkF m 9 #[.val (.ref x0), .val (.ref x1)] []))
    refine own_retV X762 hx hby hret hlk d3_9 (by decide) (by decide) ?_
    have f763 := ((Keep.refl h0 [x0]).trans K762 (allS (Or.inl (by simp)) all0))
    exact ⟨b762, _, rfl, (Fr.app N0 N762q), f763, D762, Or.inl ⟨al762, B762, V762⟩⟩
  · -- wide
    show Ends p.tables e below _ (T762.setTop (mkF m 9 #[.val (.ref x0), .val (.ref x1)] []))
    refine own_retV X762 hx hby hret hlk d3_9 (by decide) (by decide) ?_
    have f764 := ((Keep.refl h0 [x0]).trans K762 (allS (Or.inl (by simp)) all0))
    exact ⟨b762, _, rfl, (Fr.app N0 N762q), f764, D762, Or.inr ⟨B762, V762⟩⟩
set_option maxRecDepth 65536 in
set_option maxHeartbeats 40000000 in
theorem rmi4_4 (l : Launch) (Z : State) (a0 : Array Value) (hw : ∀ d ∈ tables_1, d.before a0 Z = true) (x0 : Addr) (x1 : Addr) (h0 : Heap) (n0 : Nat) {ks : Int32} {fm : Value} (G : OwnGl Z ks fm) (gx : n0 ≤ x0) (E : Exa Z h0 x0 "java/lang/String") (Fc : Fld Z h0 x0 "java/lang/String" "coder" "B" (.int (0 : Int32))) (Fv : Fld Z h0 x0 "java/lang/String" "value" "[B" .null) (O : Old Z n0 h0) {ka : ClassId} {y0 y1 y2 y3 : Int32} (hr0 : 0 ≤ y0.toInt ∧ y0.toInt < 65536) (hr1 : 0 ≤ y1.toInt ∧ y1.toInt < 65536) (hr2 : 0 ≤ y2.toInt ∧ y2.toInt < 65536) (hr3 : 0 ≤ y3.toInt ∧ y3.toInt < 65536) (Va : Arv Z h0 x1 ka .char (4 : Int32) [(.int y0), (.int y1), (.int y2), (.int y3)] (.int 0)) :
    OwnMet l Z (⟨"java/lang/String", "<init>", "([CIILjava/lang/Void;)V"⟩ : MethodName) jdk_42_method_149_code 6 none [] ({ frames := 4, cells := 2, slots := 12, locals := 61 } : Room) #[(.ref x0), (.ref x1), (.int (0 : Int32)), (.int (4 : Int32)), .null] h0 (fun v h L => ∃ b k, v = none ∧ Fr n0 L ∧ Keep h0 h [x0] ∧ Fld Z h x0 "java/lang/String" "value" "[B" (.ref b) ∧ (((y0.toInt ≤ 255 ∧ y1.toInt ≤ 255 ∧ y2.toInt ≤ 255 ∧ y3.toInt ≤ 255) ∧ Fld Z h x0 "java/lang/String" "coder" "B" (.int (0 : Int32)) ∧ Arv Z h b k .byte (4 : Int32) [(.int y0.toInt8.toInt32), (.int y1.toInt8.toInt32), (.int y2.toInt8.toInt32), (.int y3.toInt8.toInt32)] (.int 0)) ∨ (Fld Z h x0 "java/lang/String" "coder" "B" (.int (1 : Int32)) ∧ Arv Z h b k .byte (8 : Int32) [(.int (y0 >>> ((0 : Int32) &&& 31)).toInt8.toInt32), (.int (y0 >>> ((8 : Int32) &&& 31)).toInt8.toInt32), (.int (y1 >>> ((0 : Int32) &&& 31)).toInt8.toInt32), (.int (y1 >>> ((8 : Int32) &&& 31)).toInt8.toInt32), (.int (y2 >>> ((0 : Int32) &&& 31)).toInt8.toInt32), (.int (y2 >>> ((8 : Int32) &&& 31)).toInt8.toInt32), (.int (y3 >>> ((0 : Int32) &&& 31)).toInt8.toInt32), (.int (y3 >>> ((8 : Int32) &&& 31)).toInt8.toInt32)] (.int 0)))) := by
  refine own_body (plainFor_of_name pn_3) (fun m => ef_i4_4 m x0 x1) ?_
  intro p e s m below meth c s₁ X0 hx hby hml hown hnm hret hlk hZ e0
  replace hown : s.vm.findClass "java/lang/String" = some m.cls := hown
  replace hml : c.maxLocals = 6 := hml
  have N0 := Fr.nil n0
  show Ends p.tables e below _ (s₁.setTop (mkF m 0 #[.val (.ref x0), .val (.ref x1), .val (.int (0 : Int32)), .val (.int (4 : Int32)), .val .null, .unset] []))
  refine own_aloadN X0 hx hby d4_0 rfl rfl rfl ?_
  refine own_initO X0 hx hby hZ hown (hw _ tw_28) (hw _ tw_29) (hw _ tw_30) e0 (by rw [hml]; rfl) (by decide) (W := 0) (Nat.le_refl _) (by decide) d4_1 rfl (fun T765 X765 e765 => ?_)
  refine own_iloadN X765 hx hby d4_4 rfl rfl ?_
  refine own_if_ne X765 hx hby d4_5 (pcY := 27) (pcN := 8) (by decide) rfl (fun (hc766 : ¬ (4 : Int32) = (0 : Int32)) => ?_) (fun (hc766 : (4 : Int32) = (0 : Int32)) => False.elim (by exact absurd hc766 (by decide)))
  refine own_getstatic X765 hx hby hZ hown (host := "") (Or.inl (hw _ tw_31)) Via.refl e765 (G.2.2.1.ext (O).2) d4_27 rfl (fun T767 X767 e767 => ?_)
  refine own_if_eq X767 hx hby d4_30 (pcY := 58) (pcN := 33) (by decide) rfl (fun (hc768 : ks = (0 : Int32)) => False.elim (by exact G.1 hc768)) (fun (hc768 : ¬ ks = (0 : Int32)) => ?_)
  refine own_aloadN X767 hx hby d4_33 rfl rfl rfl ?_
  refine own_iloadN X767 hx hby d4_34 rfl rfl ?_
  refine own_iloadN X767 hx hby d4_35 rfl rfl ?_
  refine own_static X767 hx hby hZ (argsL := [(.ref x1), (.int (0 : Int32)), (.int (4 : Int32))]) (rest := []) hown (hw _ tw_32) (hw _ tw_33) (hw _ tw_34) (hw _ tw_35) (by decide) (rmc1_4 l Z a0 hw x1 h0 n0 G O hr0 hr1 hr2 hr3 Va) e767 (by rw [hml]; rfl) pd_14 rfl (by decide) (W := 0) (Nat.le_refl _) (by decide) (by decide) (by decide) d4_36 rfl rfl (fun v769 T769 L769 X769 hQ769 => ?_)
  rcases hQ769 with ⟨b769, k769, rfl, N769q, K769, sq769, gq769, (⟨al769, V769⟩ | V769)⟩
  · -- latin
    show Ends p.tables e below _ (T769.setTop (mkF m 39 #[.val (.ref x0), .val (.ref x1), .val (.int (0 : Int32)), .val (.int (4 : Int32)), .val .null, .unset] [(.ref b769)]))
    refine own_astore X769 hx hby d4_39 rfl #[.val (.ref x0), .val (.ref x1), .val (.int (0 : Int32)), .val (.int (4 : Int32)), .val .null, .val (.ref b769)] rfl rfl ?_
    refine own_aloadN X769 hx hby d4_41 rfl rfl rfl ?_
    refine own_aload X769 hx hby d4_42 rfl rfl rfl ?_
    refine own_iloadN X769 hx hby d4_44 rfl rfl ?_
    refine own_static X769 hx hby hZ (argsL := [(.ref b769), (.int (4 : Int32))]) (rest := [(.ref x0)]) hown (hw _ tw_39) (hw _ tw_40) (hw _ tw_34) (hw _ tw_41) (by decide) (rmcal0_4 l Z a0 hw b769 T769.heap V769) rfl (by rw [hml]; rfl) pd_15 rfl (by decide) (W := 1) (Nat.le_refl _) (by decide) (by decide) (by decide) d4_45 rfl rfl (fun v770 T770 L770 X770 hQ770 => ?_)
    obtain ⟨rfl, rfl, e770⟩ := hQ770
    show Ends p.tables e below _ (T770.setTop (mkF m 48 #[.val (.ref x0), .val (.ref x1), .val (.int (0 : Int32)), .val (.int (4 : Int32)), .val .null, .val (.ref b769)] [(.int (0 : Int32)), (.ref x0)]))
    have f771 := (E.keep K769)
    have f772 := (Fc.keep K769 nin0)
    refine own_putfield X770 hx hby hZ hown (host := "") (Or.inl (hw _ tw_42)) Via.refl e770 f772 f771 (Or.inr ⟨(hw _ tw_7), rfl, hnm⟩) (hw _ tw_4) (ty := .byte) (by decide) rfl rfl (Fr.app (Fr.app N0 N769q) (Fr.nil _)) gx  d4_48 rfl (fun T773 h773 L773 X773 e773 W773 N773 => ?_)
    have F773 := f772.same W773
    refine own_aloadN X773 hx hby d4_51 rfl rfl rfl ?_
    refine own_aload X773 hx hby d4_52 rfl rfl rfl ?_
    have f774 := (f771.wr W773)
    have f775 := ((Fv.keep K769 nin0).other W773 (Or.inr (slot_ne (Or.inr (hw _ tw_6)) (Or.inr (hw _ tw_7)) (by decide) (t := (.array .byte)) (t' := .byte) (by decide) (by decide))))
    refine own_putfield X773 hx hby hZ hown (host := "") (Or.inl (hw _ tw_19)) Via.refl e773 f775 f774 (Or.inr ⟨(hw _ tw_6), rfl, hnm⟩) (hw _ tw_4) (ty := (.array .byte)) (by decide) rfl rfl N773 gx  d4_54 rfl (fun T776 h776 L776 X776 e776 W776 N776 => ?_)
    have F776 := f775.same W776
    refine own_retV X776 hx hby hret hlk d4_57 (by decide) (by decide) ?_
    rw [e776]
    have f777 := ((((Keep.refl h0 [x0]).trans K769 all0).wr W773 (Or.inl (by simp))).wr W776 (Or.inl (by simp)))
    have f778 := (F773.other W776 (Or.inr (slot_ne (Or.inr (hw _ tw_7)) (Or.inr (hw _ tw_6)) (by decide) (t := .byte) (t' := (.array .byte)) (by decide) (by decide))))
    have f779 := ((V769.other W773 (Ne.symm (Nat.ne_of_lt (Nat.lt_of_lt_of_le E.lt sq769)))).other W776 (Ne.symm (Nat.ne_of_lt (Nat.lt_of_lt_of_le E.lt sq769))))
    exact ⟨b769, _, rfl, N776, f777, F776, Or.inl ⟨al769, f778, f779⟩⟩
  · -- wide
    show Ends p.tables e below _ (T769.setTop (mkF m 39 #[.val (.ref x0), .val (.ref x1), .val (.int (0 : Int32)), .val (.int (4 : Int32)), .val .null, .unset] [(.ref b769)]))
    refine own_astore X769 hx hby d4_39 rfl #[.val (.ref x0), .val (.ref x1), .val (.int (0 : Int32)), .val (.int (4 : Int32)), .val .null, .val (.ref b769)] rfl rfl ?_
    refine own_aloadN X769 hx hby d4_41 rfl rfl rfl ?_
    refine own_aload X769 hx hby d4_42 rfl rfl rfl ?_
    refine own_iloadN X769 hx hby d4_44 rfl rfl ?_
    refine own_static X769 hx hby hZ (argsL := [(.ref b769), (.int (4 : Int32))]) (rest := [(.ref x0)]) hown (hw _ tw_39) (hw _ tw_40) (hw _ tw_34) (hw _ tw_41) (by decide) (rmcal1_4 l Z a0 hw b769 T769.heap V769) rfl (by rw [hml]; rfl) pd_15 rfl (by decide) (W := 1) (Nat.le_refl _) (by decide) (by decide) (by decide) d4_45 rfl rfl (fun v780 T780 L780 X780 hQ780 => ?_)
    obtain ⟨rfl, rfl, e780⟩ := hQ780
    show Ends p.tables e below _ (T780.setTop (mkF m 48 #[.val (.ref x0), .val (.ref x1), .val (.int (0 : Int32)), .val (.int (4 : Int32)), .val .null, .val (.ref b769)] [(.int (1 : Int32)), (.ref x0)]))
    have f781 := (E.keep K769)
    have f782 := (Fc.keep K769 nin0)
    refine own_putfield X780 hx hby hZ hown (host := "") (Or.inl (hw _ tw_42)) Via.refl e780 f782 f781 (Or.inr ⟨(hw _ tw_7), rfl, hnm⟩) (hw _ tw_4) (ty := .byte) (by decide) rfl rfl (Fr.app (Fr.app N0 N769q) (Fr.nil _)) gx  d4_48 rfl (fun T783 h783 L783 X783 e783 W783 N783 => ?_)
    have F783 := f782.same W783
    refine own_aloadN X783 hx hby d4_51 rfl rfl rfl ?_
    refine own_aload X783 hx hby d4_52 rfl rfl rfl ?_
    have f784 := (f781.wr W783)
    have f785 := ((Fv.keep K769 nin0).other W783 (Or.inr (slot_ne (Or.inr (hw _ tw_6)) (Or.inr (hw _ tw_7)) (by decide) (t := (.array .byte)) (t' := .byte) (by decide) (by decide))))
    refine own_putfield X783 hx hby hZ hown (host := "") (Or.inl (hw _ tw_19)) Via.refl e783 f785 f784 (Or.inr ⟨(hw _ tw_6), rfl, hnm⟩) (hw _ tw_4) (ty := (.array .byte)) (by decide) rfl rfl N783 gx  d4_54 rfl (fun T786 h786 L786 X786 e786 W786 N786 => ?_)
    have F786 := f785.same W786
    refine own_retV X786 hx hby hret hlk d4_57 (by decide) (by decide) ?_
    rw [e786]
    have f787 := ((((Keep.refl h0 [x0]).trans K769 all0).wr W783 (Or.inl (by simp))).wr W786 (Or.inl (by simp)))
    have f788 := (F783.other W786 (Or.inr (slot_ne (Or.inr (hw _ tw_7)) (Or.inr (hw _ tw_6)) (by decide) (t := .byte) (t' := (.array .byte)) (by decide) (by decide))))
    have f789 := ((V769.other W783 (Ne.symm (Nat.ne_of_lt (Nat.lt_of_lt_of_le E.lt sq769)))).other W786 (Ne.symm (Nat.ne_of_lt (Nat.lt_of_lt_of_le E.lt sq769))))
    exact ⟨b769, _, rfl, N786, f787, F786, Or.inr ⟨f788, f789⟩⟩
set_option maxRecDepth 65536 in
set_option maxHeartbeats 40000000 in
theorem rmi1_4 (l : Launch) (Z : State) (a0 : Array Value) (hw : ∀ d ∈ tables_1, d.before a0 Z = true) (x0 : Addr) (x1 : Addr) (h0 : Heap) (n0 : Nat) {ks : Int32} {fm : Value} (G : OwnGl Z ks fm) (gx : n0 ≤ x0) (E : Exa Z h0 x0 "java/lang/String") (Fc : Fld Z h0 x0 "java/lang/String" "coder" "B" (.int (0 : Int32))) (Fv : Fld Z h0 x0 "java/lang/String" "value" "[B" .null) (O : Old Z n0 h0) {ka : ClassId} {y0 y1 y2 y3 : Int32} (hr0 : 0 ≤ y0.toInt ∧ y0.toInt < 65536) (hr1 : 0 ≤ y1.toInt ∧ y1.toInt < 65536) (hr2 : 0 ≤ y2.toInt ∧ y2.toInt < 65536) (hr3 : 0 ≤ y3.toInt ∧ y3.toInt < 65536) (Va : Arv Z h0 x1 ka .char (4 : Int32) [(.int y0), (.int y1), (.int y2), (.int y3)] (.int 0)) :
    OwnMet l Z (⟨"java/lang/String", "<init>", "([C)V"⟩ : MethodName) jdk_42_method_3_code 2 none [] ({ frames := 5, cells := 2, slots := 12, locals := 78 } : Room) #[(.ref x0), (.ref x1)] h0 (fun v h L => ∃ b k, v = none ∧ Fr n0 L ∧ Keep h0 h [x0] ∧ Fld Z h x0 "java/lang/String" "value" "[B" (.ref b) ∧ (((y0.toInt ≤ 255 ∧ y1.toInt ≤ 255 ∧ y2.toInt ≤ 255 ∧ y3.toInt ≤ 255) ∧ Fld Z h x0 "java/lang/String" "coder" "B" (.int (0 : Int32)) ∧ Arv Z h b k .byte (4 : Int32) [(.int y0.toInt8.toInt32), (.int y1.toInt8.toInt32), (.int y2.toInt8.toInt32), (.int y3.toInt8.toInt32)] (.int 0)) ∨ (Fld Z h x0 "java/lang/String" "coder" "B" (.int (1 : Int32)) ∧ Arv Z h b k .byte (8 : Int32) [(.int (y0 >>> ((0 : Int32) &&& 31)).toInt8.toInt32), (.int (y0 >>> ((8 : Int32) &&& 31)).toInt8.toInt32), (.int (y1 >>> ((0 : Int32) &&& 31)).toInt8.toInt32), (.int (y1 >>> ((8 : Int32) &&& 31)).toInt8.toInt32), (.int (y2 >>> ((0 : Int32) &&& 31)).toInt8.toInt32), (.int (y2 >>> ((8 : Int32) &&& 31)).toInt8.toInt32), (.int (y3 >>> ((0 : Int32) &&& 31)).toInt8.toInt32), (.int (y3 >>> ((8 : Int32) &&& 31)).toInt8.toInt32)] (.int 0)))) := by
  refine own_body (plainFor_of_name pn_3) (fun m => ef_i1_4 m x0 x1) ?_
  intro p e s m below meth c s₁ X0 hx hby hml hown hnm hret hlk hZ e0
  replace hown : s.vm.findClass "java/lang/String" = some m.cls := hown
  replace hml : c.maxLocals = 2 := hml
  have N0 := Fr.nil n0
  show Ends p.tables e below _ (s₁.setTop (mkF m 0 #[.val (.ref x0), .val (.ref x1)] []))
  refine own_aloadN X0 hx hby d3_0 rfl rfl rfl ?_
  refine own_aloadN X0 hx hby d3_1 rfl rfl rfl ?_
  refine own_iconst X0 hx hby d3_2 rfl (0 : Int32) rfl ?_
  refine own_aloadN X0 hx hby d3_3 rfl rfl rfl ?_
  refine own_arraylength X0 hx hby hZ e0 Va d3_4 rfl ?_
  refine own_aconstNull X0 hx hby d3_5 rfl ?_
  refine own_special X0 hx hby hZ (a := x0) (argsL := [(.ref x1), (.int (0 : Int32)), (.int (4 : Int32)), .null]) (rest := []) hown rfl (hw _ tw_24) (hw _ tw_25) (hw _ tw_3) (hw _ tw_27) (by decide) (rmi4_4 l Z a0 hw x0 x1 h0 n0 G gx E Fc Fv O hr0 hr1 hr2 hr3 Va) e0 (by rw [hml]; rfl) pd_16 rfl (by decide) (W := 0) (Nat.le_refl _) (by decide) (by decide) (by decide) d3_6 rfl rfl (fun v790 T790 L790 X790 hQ790 => ?_)
  rcases hQ790 with ⟨b790, k790, rfl, N790q, K790, D790, (⟨al790, B790, V790⟩ | ⟨B790, V790⟩)⟩
  · -- latin
    show Ends p.tables e below _ (T790.setTop (mkF m 9 #[.val (.ref x0), .val (.ref x1)] []))
    refine own_retV X790 hx hby hret hlk d3_9 (by decide) (by decide) ?_
    have f791 := ((Keep.refl h0 [x0]).trans K790 (allS (Or.inl (by simp)) all0))
    exact ⟨b790, _, rfl, (Fr.app N0 N790q), f791, D790, Or.inl ⟨al790, B790, V790⟩⟩
  · -- wide
    show Ends p.tables e below _ (T790.setTop (mkF m 9 #[.val (.ref x0), .val (.ref x1)] []))
    refine own_retV X790 hx hby hret hlk d3_9 (by decide) (by decide) ?_
    have f792 := ((Keep.refl h0 [x0]).trans K790 (allS (Or.inl (by simp)) all0))
    exact ⟨b790, _, rfl, (Fr.app N0 N790q), f792, D790, Or.inr ⟨B790, V790⟩⟩
set_option maxRecDepth 65536 in
set_option maxHeartbeats 40000000 in
theorem rmi4_5 (l : Launch) (Z : State) (a0 : Array Value) (hw : ∀ d ∈ tables_1, d.before a0 Z = true) (x0 : Addr) (x1 : Addr) (h0 : Heap) (n0 : Nat) {ks : Int32} {fm : Value} (G : OwnGl Z ks fm) (gx : n0 ≤ x0) (E : Exa Z h0 x0 "java/lang/String") (Fc : Fld Z h0 x0 "java/lang/String" "coder" "B" (.int (0 : Int32))) (Fv : Fld Z h0 x0 "java/lang/String" "value" "[B" .null) (O : Old Z n0 h0) {ka : ClassId} {y0 y1 y2 y3 y4 : Int32} (hr0 : 0 ≤ y0.toInt ∧ y0.toInt < 65536) (hr1 : 0 ≤ y1.toInt ∧ y1.toInt < 65536) (hr2 : 0 ≤ y2.toInt ∧ y2.toInt < 65536) (hr3 : 0 ≤ y3.toInt ∧ y3.toInt < 65536) (hr4 : 0 ≤ y4.toInt ∧ y4.toInt < 65536) (Va : Arv Z h0 x1 ka .char (5 : Int32) [(.int y0), (.int y1), (.int y2), (.int y3), (.int y4)] (.int 0)) :
    OwnMet l Z (⟨"java/lang/String", "<init>", "([CIILjava/lang/Void;)V"⟩ : MethodName) jdk_42_method_149_code 6 none [] ({ frames := 4, cells := 2, slots := 15, locals := 61 } : Room) #[(.ref x0), (.ref x1), (.int (0 : Int32)), (.int (5 : Int32)), .null] h0 (fun v h L => ∃ b k, v = none ∧ Fr n0 L ∧ Keep h0 h [x0] ∧ Fld Z h x0 "java/lang/String" "value" "[B" (.ref b) ∧ (((y0.toInt ≤ 255 ∧ y1.toInt ≤ 255 ∧ y2.toInt ≤ 255 ∧ y3.toInt ≤ 255 ∧ y4.toInt ≤ 255) ∧ Fld Z h x0 "java/lang/String" "coder" "B" (.int (0 : Int32)) ∧ Arv Z h b k .byte (5 : Int32) [(.int y0.toInt8.toInt32), (.int y1.toInt8.toInt32), (.int y2.toInt8.toInt32), (.int y3.toInt8.toInt32), (.int y4.toInt8.toInt32)] (.int 0)) ∨ (Fld Z h x0 "java/lang/String" "coder" "B" (.int (1 : Int32)) ∧ Arv Z h b k .byte (10 : Int32) [(.int (y0 >>> ((0 : Int32) &&& 31)).toInt8.toInt32), (.int (y0 >>> ((8 : Int32) &&& 31)).toInt8.toInt32), (.int (y1 >>> ((0 : Int32) &&& 31)).toInt8.toInt32), (.int (y1 >>> ((8 : Int32) &&& 31)).toInt8.toInt32), (.int (y2 >>> ((0 : Int32) &&& 31)).toInt8.toInt32), (.int (y2 >>> ((8 : Int32) &&& 31)).toInt8.toInt32), (.int (y3 >>> ((0 : Int32) &&& 31)).toInt8.toInt32), (.int (y3 >>> ((8 : Int32) &&& 31)).toInt8.toInt32), (.int (y4 >>> ((0 : Int32) &&& 31)).toInt8.toInt32), (.int (y4 >>> ((8 : Int32) &&& 31)).toInt8.toInt32)] (.int 0)))) := by
  refine own_body (plainFor_of_name pn_3) (fun m => ef_i4_5 m x0 x1) ?_
  intro p e s m below meth c s₁ X0 hx hby hml hown hnm hret hlk hZ e0
  replace hown : s.vm.findClass "java/lang/String" = some m.cls := hown
  replace hml : c.maxLocals = 6 := hml
  have N0 := Fr.nil n0
  show Ends p.tables e below _ (s₁.setTop (mkF m 0 #[.val (.ref x0), .val (.ref x1), .val (.int (0 : Int32)), .val (.int (5 : Int32)), .val .null, .unset] []))
  refine own_aloadN X0 hx hby d4_0 rfl rfl rfl ?_
  refine own_initO X0 hx hby hZ hown (hw _ tw_28) (hw _ tw_29) (hw _ tw_30) e0 (by rw [hml]; rfl) (by decide) (W := 0) (Nat.le_refl _) (by decide) d4_1 rfl (fun T793 X793 e793 => ?_)
  refine own_iloadN X793 hx hby d4_4 rfl rfl ?_
  refine own_if_ne X793 hx hby d4_5 (pcY := 27) (pcN := 8) (by decide) rfl (fun (hc794 : ¬ (5 : Int32) = (0 : Int32)) => ?_) (fun (hc794 : (5 : Int32) = (0 : Int32)) => False.elim (by exact absurd hc794 (by decide)))
  refine own_getstatic X793 hx hby hZ hown (host := "") (Or.inl (hw _ tw_31)) Via.refl e793 (G.2.2.1.ext (O).2) d4_27 rfl (fun T795 X795 e795 => ?_)
  refine own_if_eq X795 hx hby d4_30 (pcY := 58) (pcN := 33) (by decide) rfl (fun (hc796 : ks = (0 : Int32)) => False.elim (by exact G.1 hc796)) (fun (hc796 : ¬ ks = (0 : Int32)) => ?_)
  refine own_aloadN X795 hx hby d4_33 rfl rfl rfl ?_
  refine own_iloadN X795 hx hby d4_34 rfl rfl ?_
  refine own_iloadN X795 hx hby d4_35 rfl rfl ?_
  refine own_static X795 hx hby hZ (argsL := [(.ref x1), (.int (0 : Int32)), (.int (5 : Int32))]) (rest := []) hown (hw _ tw_32) (hw _ tw_33) (hw _ tw_34) (hw _ tw_35) (by decide) (rmc1_5 l Z a0 hw x1 h0 n0 G O hr0 hr1 hr2 hr3 hr4 Va) e795 (by rw [hml]; rfl) pd_14 rfl (by decide) (W := 0) (Nat.le_refl _) (by decide) (by decide) (by decide) d4_36 rfl rfl (fun v797 T797 L797 X797 hQ797 => ?_)
  rcases hQ797 with ⟨b797, k797, rfl, N797q, K797, sq797, gq797, (⟨al797, V797⟩ | V797)⟩
  · -- latin
    show Ends p.tables e below _ (T797.setTop (mkF m 39 #[.val (.ref x0), .val (.ref x1), .val (.int (0 : Int32)), .val (.int (5 : Int32)), .val .null, .unset] [(.ref b797)]))
    refine own_astore X797 hx hby d4_39 rfl #[.val (.ref x0), .val (.ref x1), .val (.int (0 : Int32)), .val (.int (5 : Int32)), .val .null, .val (.ref b797)] rfl rfl ?_
    refine own_aloadN X797 hx hby d4_41 rfl rfl rfl ?_
    refine own_aload X797 hx hby d4_42 rfl rfl rfl ?_
    refine own_iloadN X797 hx hby d4_44 rfl rfl ?_
    refine own_static X797 hx hby hZ (argsL := [(.ref b797), (.int (5 : Int32))]) (rest := [(.ref x0)]) hown (hw _ tw_39) (hw _ tw_40) (hw _ tw_34) (hw _ tw_41) (by decide) (rmcal0_5 l Z a0 hw b797 T797.heap V797) rfl (by rw [hml]; rfl) pd_15 rfl (by decide) (W := 1) (Nat.le_refl _) (by decide) (by decide) (by decide) d4_45 rfl rfl (fun v798 T798 L798 X798 hQ798 => ?_)
    obtain ⟨rfl, rfl, e798⟩ := hQ798
    show Ends p.tables e below _ (T798.setTop (mkF m 48 #[.val (.ref x0), .val (.ref x1), .val (.int (0 : Int32)), .val (.int (5 : Int32)), .val .null, .val (.ref b797)] [(.int (0 : Int32)), (.ref x0)]))
    have f799 := (E.keep K797)
    have f800 := (Fc.keep K797 nin0)
    refine own_putfield X798 hx hby hZ hown (host := "") (Or.inl (hw _ tw_42)) Via.refl e798 f800 f799 (Or.inr ⟨(hw _ tw_7), rfl, hnm⟩) (hw _ tw_4) (ty := .byte) (by decide) rfl rfl (Fr.app (Fr.app N0 N797q) (Fr.nil _)) gx  d4_48 rfl (fun T801 h801 L801 X801 e801 W801 N801 => ?_)
    have F801 := f800.same W801
    refine own_aloadN X801 hx hby d4_51 rfl rfl rfl ?_
    refine own_aload X801 hx hby d4_52 rfl rfl rfl ?_
    have f802 := (f799.wr W801)
    have f803 := ((Fv.keep K797 nin0).other W801 (Or.inr (slot_ne (Or.inr (hw _ tw_6)) (Or.inr (hw _ tw_7)) (by decide) (t := (.array .byte)) (t' := .byte) (by decide) (by decide))))
    refine own_putfield X801 hx hby hZ hown (host := "") (Or.inl (hw _ tw_19)) Via.refl e801 f803 f802 (Or.inr ⟨(hw _ tw_6), rfl, hnm⟩) (hw _ tw_4) (ty := (.array .byte)) (by decide) rfl rfl N801 gx  d4_54 rfl (fun T804 h804 L804 X804 e804 W804 N804 => ?_)
    have F804 := f803.same W804
    refine own_retV X804 hx hby hret hlk d4_57 (by decide) (by decide) ?_
    rw [e804]
    have f805 := ((((Keep.refl h0 [x0]).trans K797 all0).wr W801 (Or.inl (by simp))).wr W804 (Or.inl (by simp)))
    have f806 := (F801.other W804 (Or.inr (slot_ne (Or.inr (hw _ tw_7)) (Or.inr (hw _ tw_6)) (by decide) (t := .byte) (t' := (.array .byte)) (by decide) (by decide))))
    have f807 := ((V797.other W801 (Ne.symm (Nat.ne_of_lt (Nat.lt_of_lt_of_le E.lt sq797)))).other W804 (Ne.symm (Nat.ne_of_lt (Nat.lt_of_lt_of_le E.lt sq797))))
    exact ⟨b797, _, rfl, N804, f805, F804, Or.inl ⟨al797, f806, f807⟩⟩
  · -- wide
    show Ends p.tables e below _ (T797.setTop (mkF m 39 #[.val (.ref x0), .val (.ref x1), .val (.int (0 : Int32)), .val (.int (5 : Int32)), .val .null, .unset] [(.ref b797)]))
    refine own_astore X797 hx hby d4_39 rfl #[.val (.ref x0), .val (.ref x1), .val (.int (0 : Int32)), .val (.int (5 : Int32)), .val .null, .val (.ref b797)] rfl rfl ?_
    refine own_aloadN X797 hx hby d4_41 rfl rfl rfl ?_
    refine own_aload X797 hx hby d4_42 rfl rfl rfl ?_
    refine own_iloadN X797 hx hby d4_44 rfl rfl ?_
    refine own_static X797 hx hby hZ (argsL := [(.ref b797), (.int (5 : Int32))]) (rest := [(.ref x0)]) hown (hw _ tw_39) (hw _ tw_40) (hw _ tw_34) (hw _ tw_41) (by decide) (rmcal1_5 l Z a0 hw b797 T797.heap V797) rfl (by rw [hml]; rfl) pd_15 rfl (by decide) (W := 1) (Nat.le_refl _) (by decide) (by decide) (by decide) d4_45 rfl rfl (fun v808 T808 L808 X808 hQ808 => ?_)
    obtain ⟨rfl, rfl, e808⟩ := hQ808
    show Ends p.tables e below _ (T808.setTop (mkF m 48 #[.val (.ref x0), .val (.ref x1), .val (.int (0 : Int32)), .val (.int (5 : Int32)), .val .null, .val (.ref b797)] [(.int (1 : Int32)), (.ref x0)]))
    have f809 := (E.keep K797)
    have f810 := (Fc.keep K797 nin0)
    refine own_putfield X808 hx hby hZ hown (host := "") (Or.inl (hw _ tw_42)) Via.refl e808 f810 f809 (Or.inr ⟨(hw _ tw_7), rfl, hnm⟩) (hw _ tw_4) (ty := .byte) (by decide) rfl rfl (Fr.app (Fr.app N0 N797q) (Fr.nil _)) gx  d4_48 rfl (fun T811 h811 L811 X811 e811 W811 N811 => ?_)
    have F811 := f810.same W811
    refine own_aloadN X811 hx hby d4_51 rfl rfl rfl ?_
    refine own_aload X811 hx hby d4_52 rfl rfl rfl ?_
    have f812 := (f809.wr W811)
    have f813 := ((Fv.keep K797 nin0).other W811 (Or.inr (slot_ne (Or.inr (hw _ tw_6)) (Or.inr (hw _ tw_7)) (by decide) (t := (.array .byte)) (t' := .byte) (by decide) (by decide))))
    refine own_putfield X811 hx hby hZ hown (host := "") (Or.inl (hw _ tw_19)) Via.refl e811 f813 f812 (Or.inr ⟨(hw _ tw_6), rfl, hnm⟩) (hw _ tw_4) (ty := (.array .byte)) (by decide) rfl rfl N811 gx  d4_54 rfl (fun T814 h814 L814 X814 e814 W814 N814 => ?_)
    have F814 := f813.same W814
    refine own_retV X814 hx hby hret hlk d4_57 (by decide) (by decide) ?_
    rw [e814]
    have f815 := ((((Keep.refl h0 [x0]).trans K797 all0).wr W811 (Or.inl (by simp))).wr W814 (Or.inl (by simp)))
    have f816 := (F811.other W814 (Or.inr (slot_ne (Or.inr (hw _ tw_7)) (Or.inr (hw _ tw_6)) (by decide) (t := .byte) (t' := (.array .byte)) (by decide) (by decide))))
    have f817 := ((V797.other W811 (Ne.symm (Nat.ne_of_lt (Nat.lt_of_lt_of_le E.lt sq797)))).other W814 (Ne.symm (Nat.ne_of_lt (Nat.lt_of_lt_of_le E.lt sq797))))
    exact ⟨b797, _, rfl, N814, f815, F814, Or.inr ⟨f816, f817⟩⟩
set_option maxRecDepth 65536 in
set_option maxHeartbeats 40000000 in
theorem rmi1_5 (l : Launch) (Z : State) (a0 : Array Value) (hw : ∀ d ∈ tables_1, d.before a0 Z = true) (x0 : Addr) (x1 : Addr) (h0 : Heap) (n0 : Nat) {ks : Int32} {fm : Value} (G : OwnGl Z ks fm) (gx : n0 ≤ x0) (E : Exa Z h0 x0 "java/lang/String") (Fc : Fld Z h0 x0 "java/lang/String" "coder" "B" (.int (0 : Int32))) (Fv : Fld Z h0 x0 "java/lang/String" "value" "[B" .null) (O : Old Z n0 h0) {ka : ClassId} {y0 y1 y2 y3 y4 : Int32} (hr0 : 0 ≤ y0.toInt ∧ y0.toInt < 65536) (hr1 : 0 ≤ y1.toInt ∧ y1.toInt < 65536) (hr2 : 0 ≤ y2.toInt ∧ y2.toInt < 65536) (hr3 : 0 ≤ y3.toInt ∧ y3.toInt < 65536) (hr4 : 0 ≤ y4.toInt ∧ y4.toInt < 65536) (Va : Arv Z h0 x1 ka .char (5 : Int32) [(.int y0), (.int y1), (.int y2), (.int y3), (.int y4)] (.int 0)) :
    OwnMet l Z (⟨"java/lang/String", "<init>", "([C)V"⟩ : MethodName) jdk_42_method_3_code 2 none [] ({ frames := 5, cells := 2, slots := 15, locals := 78 } : Room) #[(.ref x0), (.ref x1)] h0 (fun v h L => ∃ b k, v = none ∧ Fr n0 L ∧ Keep h0 h [x0] ∧ Fld Z h x0 "java/lang/String" "value" "[B" (.ref b) ∧ (((y0.toInt ≤ 255 ∧ y1.toInt ≤ 255 ∧ y2.toInt ≤ 255 ∧ y3.toInt ≤ 255 ∧ y4.toInt ≤ 255) ∧ Fld Z h x0 "java/lang/String" "coder" "B" (.int (0 : Int32)) ∧ Arv Z h b k .byte (5 : Int32) [(.int y0.toInt8.toInt32), (.int y1.toInt8.toInt32), (.int y2.toInt8.toInt32), (.int y3.toInt8.toInt32), (.int y4.toInt8.toInt32)] (.int 0)) ∨ (Fld Z h x0 "java/lang/String" "coder" "B" (.int (1 : Int32)) ∧ Arv Z h b k .byte (10 : Int32) [(.int (y0 >>> ((0 : Int32) &&& 31)).toInt8.toInt32), (.int (y0 >>> ((8 : Int32) &&& 31)).toInt8.toInt32), (.int (y1 >>> ((0 : Int32) &&& 31)).toInt8.toInt32), (.int (y1 >>> ((8 : Int32) &&& 31)).toInt8.toInt32), (.int (y2 >>> ((0 : Int32) &&& 31)).toInt8.toInt32), (.int (y2 >>> ((8 : Int32) &&& 31)).toInt8.toInt32), (.int (y3 >>> ((0 : Int32) &&& 31)).toInt8.toInt32), (.int (y3 >>> ((8 : Int32) &&& 31)).toInt8.toInt32), (.int (y4 >>> ((0 : Int32) &&& 31)).toInt8.toInt32), (.int (y4 >>> ((8 : Int32) &&& 31)).toInt8.toInt32)] (.int 0)))) := by
  refine own_body (plainFor_of_name pn_3) (fun m => ef_i1_5 m x0 x1) ?_
  intro p e s m below meth c s₁ X0 hx hby hml hown hnm hret hlk hZ e0
  replace hown : s.vm.findClass "java/lang/String" = some m.cls := hown
  replace hml : c.maxLocals = 2 := hml
  have N0 := Fr.nil n0
  show Ends p.tables e below _ (s₁.setTop (mkF m 0 #[.val (.ref x0), .val (.ref x1)] []))
  refine own_aloadN X0 hx hby d3_0 rfl rfl rfl ?_
  refine own_aloadN X0 hx hby d3_1 rfl rfl rfl ?_
  refine own_iconst X0 hx hby d3_2 rfl (0 : Int32) rfl ?_
  refine own_aloadN X0 hx hby d3_3 rfl rfl rfl ?_
  refine own_arraylength X0 hx hby hZ e0 Va d3_4 rfl ?_
  refine own_aconstNull X0 hx hby d3_5 rfl ?_
  refine own_special X0 hx hby hZ (a := x0) (argsL := [(.ref x1), (.int (0 : Int32)), (.int (5 : Int32)), .null]) (rest := []) hown rfl (hw _ tw_24) (hw _ tw_25) (hw _ tw_3) (hw _ tw_27) (by decide) (rmi4_5 l Z a0 hw x0 x1 h0 n0 G gx E Fc Fv O hr0 hr1 hr2 hr3 hr4 Va) e0 (by rw [hml]; rfl) pd_16 rfl (by decide) (W := 0) (Nat.le_refl _) (by decide) (by decide) (by decide) d3_6 rfl rfl (fun v818 T818 L818 X818 hQ818 => ?_)
  rcases hQ818 with ⟨b818, k818, rfl, N818q, K818, D818, (⟨al818, B818, V818⟩ | ⟨B818, V818⟩)⟩
  · -- latin
    show Ends p.tables e below _ (T818.setTop (mkF m 9 #[.val (.ref x0), .val (.ref x1)] []))
    refine own_retV X818 hx hby hret hlk d3_9 (by decide) (by decide) ?_
    have f819 := ((Keep.refl h0 [x0]).trans K818 (allS (Or.inl (by simp)) all0))
    exact ⟨b818, _, rfl, (Fr.app N0 N818q), f819, D818, Or.inl ⟨al818, B818, V818⟩⟩
  · -- wide
    show Ends p.tables e below _ (T818.setTop (mkF m 9 #[.val (.ref x0), .val (.ref x1)] []))
    refine own_retV X818 hx hby hret hlk d3_9 (by decide) (by decide) ?_
    have f820 := ((Keep.refl h0 [x0]).trans K818 (allS (Or.inl (by simp)) all0))
    exact ⟨b818, _, rfl, (Fr.app N0 N818q), f820, D818, Or.inr ⟨B818, V818⟩⟩
set_option maxRecDepth 65536 in
set_option maxHeartbeats 40000000 in
theorem rm0 (l : Launch) (Z : State) (a0 : Array Value) (hw : ∀ d ∈ tables_1, d.before a0 Z = true) (x0 : Int32) (x1 : Int32) (x2 : Int32) (x3 : Int32) (x4 : Int32) (x5 : Int32) (h0 : Heap) (n0 : Nat) (hEL : EW Z a0 consts_1) {ks : Int32} {fm : Value} (G : OwnGl Z ks fm) (O : Old Z n0 h0) :
    OwnMetH l Z consts_1 [] x code maxLocals ret tables_1 room_1 #[(.int x0), (.int x1), (.int x2), (.int x3), (.int x4), (.int x5)] h0 (fun v h L => v = some (.int 1) ∧ Fr n0 L) := by
  refine own_bodyH (plainFor_of_name pn_0) (fun m => ef_0 m x0 x1 x2 x3 x4 x5) ?_
  intro p e s m below meth c s₁ X0 hx hby hml hown hnm hret hlk hZ e0 eh hS hH hxs
  replace hown : (s.setVm s.vm).vm.findClass "com/example/uni_errors/unierrors/CorrelationHeadersIsValidIdPinLaw" = some m.cls := hown
  replace hml : c.maxLocals = 19 := hml
  have N0 := Fr.nil n0
  show Ends p.tables e below _ (s₁.setTop (mkF m 0 #[.val (.int x0), .val (.int x1), .val (.int x2), .val (.int x3), .val (.int x4), .val (.int x5), .unset, .unset, .unset, .unset, .unset, .unset, .unset, .unset, .unset, .unset, .unset, .unset, .unset] []))
  have i0 : (0 : Int32).toInt = 0 := rfl
  have i1 : (1 : Int32).toInt = 1 := rfl
  have i128 : (128 : Int32).toInt = 128 := rfl
  have i129 : (129 : Int32).toInt = 129 := rfl
  show Ends p.tables e below _ (s₁.setTop (mkF m 0 #[.val (.int x0), .val (.int x1), .val (.int x2), .val (.int x3), .val (.int x4), .val (.int x5), .unset, .unset, .unset, .unset, .unset, .unset, .unset, .unset, .unset, .unset, .unset, .unset, .unset] []))
  refine own_iloadN X0 hx hby at_0 rfl rfl ?_
  refine own_ldcI X0 hx hby hZ hown (hw _ tw_0) at_1 rfl ?_
  refine own_iand X0 hx hby at_3 rfl ?_
  refine own_bipush X0 hx hby at_4 rfl (9 : Int32) rfl ?_
  refine own_irem X0 hx hby at_6 rfl (by decide) ?_
  refine own_istore X0 hx hby at_7 rfl #[.val (.int x0), .val (.int x1), .val (.int x2), .val (.int x3), .val (.int x4), .val (.int x5), .val (.int ((x0 &&& (2147483647 : Int32)) % (9 : Int32))), .unset, .unset, .unset, .unset, .unset, .unset, .unset, .unset, .unset, .unset, .unset, .unset] rfl ?_
  refine own_iloadN X0 hx hby at_9 rfl rfl ?_
  refine own_i2c X0 hx hby at_10 rfl ?_
  refine own_istore X0 hx hby at_11 rfl #[.val (.int x0), .val (.int x1), .val (.int x2), .val (.int x3), .val (.int x4), .val (.int x5), .val (.int ((x0 &&& (2147483647 : Int32)) % (9 : Int32))), .val (.int x1.toUInt32.toUInt16.toUInt32.toInt32), .unset, .unset, .unset, .unset, .unset, .unset, .unset, .unset, .unset, .unset, .unset] rfl ?_
  refine own_iloadN X0 hx hby at_13 rfl rfl ?_
  refine own_i2c X0 hx hby at_14 rfl ?_
  refine own_istore X0 hx hby at_15 rfl #[.val (.int x0), .val (.int x1), .val (.int x2), .val (.int x3), .val (.int x4), .val (.int x5), .val (.int ((x0 &&& (2147483647 : Int32)) % (9 : Int32))), .val (.int x1.toUInt32.toUInt16.toUInt32.toInt32), .val (.int x2.toUInt32.toUInt16.toUInt32.toInt32), .unset, .unset, .unset, .unset, .unset, .unset, .unset, .unset, .unset, .unset] rfl ?_
  refine own_iloadN X0 hx hby at_17 rfl rfl ?_
  refine own_i2c X0 hx hby at_18 rfl ?_
  refine own_istore X0 hx hby at_19 rfl #[.val (.int x0), .val (.int x1), .val (.int x2), .val (.int x3), .val (.int x4), .val (.int x5), .val (.int ((x0 &&& (2147483647 : Int32)) % (9 : Int32))), .val (.int x1.toUInt32.toUInt16.toUInt32.toInt32), .val (.int x2.toUInt32.toUInt16.toUInt32.toInt32), .val (.int x3.toUInt32.toUInt16.toUInt32.toInt32), .unset, .unset, .unset, .unset, .unset, .unset, .unset, .unset, .unset] rfl ?_
  refine own_iload X0 hx hby at_21 rfl rfl ?_
  refine own_i2c X0 hx hby at_23 rfl ?_
  refine own_istore X0 hx hby at_24 rfl #[.val (.int x0), .val (.int x1), .val (.int x2), .val (.int x3), .val (.int x4), .val (.int x5), .val (.int ((x0 &&& (2147483647 : Int32)) % (9 : Int32))), .val (.int x1.toUInt32.toUInt16.toUInt32.toInt32), .val (.int x2.toUInt32.toUInt16.toUInt32.toInt32), .val (.int x3.toUInt32.toUInt16.toUInt32.toInt32), .val (.int x4.toUInt32.toUInt16.toUInt32.toInt32), .unset, .unset, .unset, .unset, .unset, .unset, .unset, .unset] rfl ?_
  refine own_iload X0 hx hby at_26 rfl rfl ?_
  refine own_i2c X0 hx hby at_28 rfl ?_
  refine own_istore X0 hx hby at_29 rfl #[.val (.int x0), .val (.int x1), .val (.int x2), .val (.int x3), .val (.int x4), .val (.int x5), .val (.int ((x0 &&& (2147483647 : Int32)) % (9 : Int32))), .val (.int x1.toUInt32.toUInt16.toUInt32.toInt32), .val (.int x2.toUInt32.toUInt16.toUInt32.toInt32), .val (.int x3.toUInt32.toUInt16.toUInt32.toInt32), .val (.int x4.toUInt32.toUInt16.toUInt32.toInt32), .val (.int x5.toUInt32.toUInt16.toUInt32.toInt32), .unset, .unset, .unset, .unset, .unset, .unset, .unset] rfl ?_
  have hn0 := own_nc x1
  have hf0 := own_fc x1
  have hr0 := own_rc x1
  generalize x1.toUInt32.toUInt16.toUInt32.toInt32 = y0 at *
  have hn1 := own_nc x2
  have hf1 := own_fc x2
  have hr1 := own_rc x2
  generalize x2.toUInt32.toUInt16.toUInt32.toInt32 = y1 at *
  have hn2 := own_nc x3
  have hf2 := own_fc x3
  have hr2 := own_rc x3
  generalize x3.toUInt32.toUInt16.toUInt32.toInt32 = y2 at *
  have hn3 := own_nc x4
  have hf3 := own_fc x4
  have hr3 := own_rc x4
  generalize x4.toUInt32.toUInt16.toUInt32.toInt32 = y3 at *
  have hn4 := own_nc x5
  have hf4 := own_fc x5
  have hr4 := own_rc x5
  generalize x5.toUInt32.toUInt16.toUInt32.toInt32 = y4 at *
  show Ends p.tables e below _ (s₁.setTop (mkF m 31 #[.val (.int x0), .val (.int x1), .val (.int x2), .val (.int x3), .val (.int x4), .val (.int x5), .val (.int ((x0 &&& (2147483647 : Int32)) % (9 : Int32))), .val (.int y0), .val (.int y1), .val (.int y2), .val (.int y3), .val (.int y4), .unset, .unset, .unset, .unset, .unset, .unset, .unset] []))
  refine own_iconst X0 hx hby at_31 rfl (1 : Int32) rfl ?_
  refine own_newarray X0 hx hby hZ (aty := .char) (hw _ tw_1) e0 (by decide) 1 (by decide) (by decide) (by decide) (by decide) .char rfl [(.int (0 : Int32))] rfl at_32 rfl (fun T821 h821 b821 k821 X821 e821 g821 E821 V821 => ?_)
  have ge_b821 : n0 ≤ b821 := own_ge O g821
  refine own_dup X821 hx hby at_34 rfl rfl ?_
  refine own_iconst X821 hx hby at_35 rfl (0 : Int32) rfl ?_
  refine own_iload X821 hx hby at_36 rfl rfl ?_
  have f822 := (own_Re (CHr.refl hH) E821)
  have sf823 := own_safe (EL := consts_1) hZ V821
  refine own_castore X821 hx hby hZ y0 hn0 e821 V821 (by decide) 0 rfl (show 0 < 1 by decide) [(.int y0)] rfl hf0 N0 ge_b821 at_38 rfl (fun T824 h824 L824 X824 e824 W824 V824 N824 => ?_)
  have f825 := own_Rw f822 W824 sf823
  refine own_astore X824 hx hby at_39 rfl #[.val (.int x0), .val (.int x1), .val (.int x2), .val (.int x3), .val (.int x4), .val (.int x5), .val (.int ((x0 &&& (2147483647 : Int32)) % (9 : Int32))), .val (.int y0), .val (.int y1), .val (.int y2), .val (.int y3), .val (.int y4), .val (.ref b821), .unset, .unset, .unset, .unset, .unset, .unset] rfl rfl ?_
  refine own_iconst X824 hx hby at_41 rfl (2 : Int32) rfl ?_
  have f827 := ((O.ext E821).wr W824 ge_b821)
  refine own_newarray X824 hx hby hZ (aty := .char) (hw _ tw_1) e824 (by decide) 2 (by decide) (by decide) (by decide) (by decide) .char rfl [(.int (0 : Int32)), (.int (0 : Int32))] rfl at_42 rfl (fun T826 h826 b826 k826 X826 e826 g826 E826 V826 => ?_)
  have ge_b826 : n0 ≤ b826 := own_ge f827 g826
  have ne_b821_b826 : b821 ≠ b826 := own_lt V824.lt g826
  refine own_dup X826 hx hby at_44 rfl rfl ?_
  refine own_iconst X826 hx hby at_45 rfl (0 : Int32) rfl ?_
  refine own_iload X826 hx hby at_46 rfl rfl ?_
  have f828 := (own_Re f825 E826)
  have sf829 := own_safe (EL := consts_1) hZ V826
  refine own_castore X826 hx hby hZ y0 hn0 e826 V826 (by decide) 0 rfl (show 0 < 2 by decide) [(.int y0), (.int (0 : Int32))] rfl hf0 N824 ge_b826 at_48 rfl (fun T830 h830 L830 X830 e830 W830 V830 N830 => ?_)
  have f831 := own_Rw f828 W830 sf829
  refine own_dup X830 hx hby at_49 rfl rfl ?_
  refine own_iconst X830 hx hby at_50 rfl (1 : Int32) rfl ?_
  refine own_iload X830 hx hby at_51 rfl rfl ?_
  have sf832 := own_safe (EL := consts_1) hZ V830
  refine own_castore X830 hx hby hZ y1 hn1 e830 V830 (by decide) 1 rfl (show 1 < 2 by decide) [(.int y0), (.int y1)] rfl hf1 N830 ge_b826 at_53 rfl (fun T833 h833 L833 X833 e833 W833 V833 N833 => ?_)
  have f834 := own_Rw f831 W833 sf832
  refine own_astore X833 hx hby at_54 rfl #[.val (.int x0), .val (.int x1), .val (.int x2), .val (.int x3), .val (.int x4), .val (.int x5), .val (.int ((x0 &&& (2147483647 : Int32)) % (9 : Int32))), .val (.int y0), .val (.int y1), .val (.int y2), .val (.int y3), .val (.int y4), .val (.ref b821), .val (.ref b826), .unset, .unset, .unset, .unset, .unset] rfl rfl ?_
  refine own_iconst X833 hx hby at_56 rfl (3 : Int32) rfl ?_
  have f836 := (((f827.ext E826).wr W830 ge_b826).wr W833 ge_b826)
  refine own_newarray X833 hx hby hZ (aty := .char) (hw _ tw_1) e833 (by decide) 3 (by decide) (by decide) (by decide) (by decide) .char rfl [(.int (0 : Int32)), (.int (0 : Int32)), (.int (0 : Int32))] rfl at_57 rfl (fun T835 h835 b835 k835 X835 e835 g835 E835 V835 => ?_)
  have ge_b835 : n0 ≤ b835 := own_ge f836 g835
  have ne_b826_b835 : b826 ≠ b835 := own_lt V833.lt g835
  have f837 := (((V824.ext E826).other W830 ne_b821_b826).other W833 ne_b821_b826)
  have ne_b821_b835 : b821 ≠ b835 := own_lt f837.lt g835
  refine own_dup X835 hx hby at_59 rfl rfl ?_
  refine own_iconst X835 hx hby at_60 rfl (0 : Int32) rfl ?_
  refine own_iload X835 hx hby at_61 rfl rfl ?_
  have f838 := (own_Re f834 E835)
  have sf839 := own_safe (EL := consts_1) hZ V835
  refine own_castore X835 hx hby hZ y0 hn0 e835 V835 (by decide) 0 rfl (show 0 < 3 by decide) [(.int y0), (.int (0 : Int32)), (.int (0 : Int32))] rfl hf0 N833 ge_b835 at_63 rfl (fun T840 h840 L840 X840 e840 W840 V840 N840 => ?_)
  have f841 := own_Rw f838 W840 sf839
  refine own_dup X840 hx hby at_64 rfl rfl ?_
  refine own_iconst X840 hx hby at_65 rfl (1 : Int32) rfl ?_
  refine own_iload X840 hx hby at_66 rfl rfl ?_
  have sf842 := own_safe (EL := consts_1) hZ V840
  refine own_castore X840 hx hby hZ y1 hn1 e840 V840 (by decide) 1 rfl (show 1 < 3 by decide) [(.int y0), (.int y1), (.int (0 : Int32))] rfl hf1 N840 ge_b835 at_68 rfl (fun T843 h843 L843 X843 e843 W843 V843 N843 => ?_)
  have f844 := own_Rw f841 W843 sf842
  refine own_dup X843 hx hby at_69 rfl rfl ?_
  refine own_iconst X843 hx hby at_70 rfl (2 : Int32) rfl ?_
  refine own_iload X843 hx hby at_71 rfl rfl ?_
  have sf845 := own_safe (EL := consts_1) hZ V843
  refine own_castore X843 hx hby hZ y2 hn2 e843 V843 (by decide) 2 rfl (show 2 < 3 by decide) [(.int y0), (.int y1), (.int y2)] rfl hf2 N843 ge_b835 at_73 rfl (fun T846 h846 L846 X846 e846 W846 V846 N846 => ?_)
  have f847 := own_Rw f844 W846 sf845
  refine own_astore X846 hx hby at_74 rfl #[.val (.int x0), .val (.int x1), .val (.int x2), .val (.int x3), .val (.int x4), .val (.int x5), .val (.int ((x0 &&& (2147483647 : Int32)) % (9 : Int32))), .val (.int y0), .val (.int y1), .val (.int y2), .val (.int y3), .val (.int y4), .val (.ref b821), .val (.ref b826), .val (.ref b835), .unset, .unset, .unset, .unset] rfl rfl ?_
  refine own_iconst X846 hx hby at_76 rfl (4 : Int32) rfl ?_
  have f849 := ((((f836.ext E835).wr W840 ge_b835).wr W843 ge_b835).wr W846 ge_b835)
  refine own_newarray X846 hx hby hZ (aty := .char) (hw _ tw_1) e846 (by decide) 4 (by decide) (by decide) (by decide) (by decide) .char rfl [(.int (0 : Int32)), (.int (0 : Int32)), (.int (0 : Int32)), (.int (0 : Int32))] rfl at_77 rfl (fun T848 h848 b848 k848 X848 e848 g848 E848 V848 => ?_)
  have ge_b848 : n0 ≤ b848 := own_ge f849 g848
  have ne_b835_b848 : b835 ≠ b848 := own_lt V846.lt g848
  have f850 := ((((f837.ext E835).other W840 ne_b821_b835).other W843 ne_b821_b835).other W846 ne_b821_b835)
  have ne_b821_b848 : b821 ≠ b848 := own_lt f850.lt g848
  have f851 := ((((V833.ext E835).other W840 ne_b826_b835).other W843 ne_b826_b835).other W846 ne_b826_b835)
  have ne_b826_b848 : b826 ≠ b848 := own_lt f851.lt g848
  refine own_dup X848 hx hby at_79 rfl rfl ?_
  refine own_iconst X848 hx hby at_80 rfl (0 : Int32) rfl ?_
  refine own_iload X848 hx hby at_81 rfl rfl ?_
  have f852 := (own_Re f847 E848)
  have sf853 := own_safe (EL := consts_1) hZ V848
  refine own_castore X848 hx hby hZ y0 hn0 e848 V848 (by decide) 0 rfl (show 0 < 4 by decide) [(.int y0), (.int (0 : Int32)), (.int (0 : Int32)), (.int (0 : Int32))] rfl hf0 N846 ge_b848 at_83 rfl (fun T854 h854 L854 X854 e854 W854 V854 N854 => ?_)
  have f855 := own_Rw f852 W854 sf853
  refine own_dup X854 hx hby at_84 rfl rfl ?_
  refine own_iconst X854 hx hby at_85 rfl (1 : Int32) rfl ?_
  refine own_iload X854 hx hby at_86 rfl rfl ?_
  have sf856 := own_safe (EL := consts_1) hZ V854
  refine own_castore X854 hx hby hZ y1 hn1 e854 V854 (by decide) 1 rfl (show 1 < 4 by decide) [(.int y0), (.int y1), (.int (0 : Int32)), (.int (0 : Int32))] rfl hf1 N854 ge_b848 at_88 rfl (fun T857 h857 L857 X857 e857 W857 V857 N857 => ?_)
  have f858 := own_Rw f855 W857 sf856
  refine own_dup X857 hx hby at_89 rfl rfl ?_
  refine own_iconst X857 hx hby at_90 rfl (2 : Int32) rfl ?_
  refine own_iload X857 hx hby at_91 rfl rfl ?_
  have sf859 := own_safe (EL := consts_1) hZ V857
  refine own_castore X857 hx hby hZ y2 hn2 e857 V857 (by decide) 2 rfl (show 2 < 4 by decide) [(.int y0), (.int y1), (.int y2), (.int (0 : Int32))] rfl hf2 N857 ge_b848 at_93 rfl (fun T860 h860 L860 X860 e860 W860 V860 N860 => ?_)
  have f861 := own_Rw f858 W860 sf859
  refine own_dup X860 hx hby at_94 rfl rfl ?_
  refine own_iconst X860 hx hby at_95 rfl (3 : Int32) rfl ?_
  refine own_iload X860 hx hby at_96 rfl rfl ?_
  have sf862 := own_safe (EL := consts_1) hZ V860
  refine own_castore X860 hx hby hZ y3 hn3 e860 V860 (by decide) 3 rfl (show 3 < 4 by decide) [(.int y0), (.int y1), (.int y2), (.int y3)] rfl hf3 N860 ge_b848 at_98 rfl (fun T863 h863 L863 X863 e863 W863 V863 N863 => ?_)
  have f864 := own_Rw f861 W863 sf862
  refine own_astore X863 hx hby at_99 rfl #[.val (.int x0), .val (.int x1), .val (.int x2), .val (.int x3), .val (.int x4), .val (.int x5), .val (.int ((x0 &&& (2147483647 : Int32)) % (9 : Int32))), .val (.int y0), .val (.int y1), .val (.int y2), .val (.int y3), .val (.int y4), .val (.ref b821), .val (.ref b826), .val (.ref b835), .val (.ref b848), .unset, .unset, .unset] rfl rfl ?_
  refine own_iconst X863 hx hby at_101 rfl (5 : Int32) rfl ?_
  have f866 := (((((f849.ext E848).wr W854 ge_b848).wr W857 ge_b848).wr W860 ge_b848).wr W863 ge_b848)
  refine own_newarray X863 hx hby hZ (aty := .char) (hw _ tw_1) e863 (by decide) 5 (by decide) (by decide) (by decide) (by decide) .char rfl [(.int (0 : Int32)), (.int (0 : Int32)), (.int (0 : Int32)), (.int (0 : Int32)), (.int (0 : Int32))] rfl at_102 rfl (fun T865 h865 b865 k865 X865 e865 g865 E865 V865 => ?_)
  have ge_b865 : n0 ≤ b865 := own_ge f866 g865
  have ne_b848_b865 : b848 ≠ b865 := own_lt V863.lt g865
  have f867 := (((((f850.ext E848).other W854 ne_b821_b848).other W857 ne_b821_b848).other W860 ne_b821_b848).other W863 ne_b821_b848)
  have ne_b821_b865 : b821 ≠ b865 := own_lt f867.lt g865
  have f868 := (((((f851.ext E848).other W854 ne_b826_b848).other W857 ne_b826_b848).other W860 ne_b826_b848).other W863 ne_b826_b848)
  have ne_b826_b865 : b826 ≠ b865 := own_lt f868.lt g865
  have f869 := (((((V846.ext E848).other W854 ne_b835_b848).other W857 ne_b835_b848).other W860 ne_b835_b848).other W863 ne_b835_b848)
  have ne_b835_b865 : b835 ≠ b865 := own_lt f869.lt g865
  refine own_dup X865 hx hby at_104 rfl rfl ?_
  refine own_iconst X865 hx hby at_105 rfl (0 : Int32) rfl ?_
  refine own_iload X865 hx hby at_106 rfl rfl ?_
  have f870 := (own_Re f864 E865)
  have sf871 := own_safe (EL := consts_1) hZ V865
  refine own_castore X865 hx hby hZ y0 hn0 e865 V865 (by decide) 0 rfl (show 0 < 5 by decide) [(.int y0), (.int (0 : Int32)), (.int (0 : Int32)), (.int (0 : Int32)), (.int (0 : Int32))] rfl hf0 N863 ge_b865 at_108 rfl (fun T872 h872 L872 X872 e872 W872 V872 N872 => ?_)
  have f873 := own_Rw f870 W872 sf871
  refine own_dup X872 hx hby at_109 rfl rfl ?_
  refine own_iconst X872 hx hby at_110 rfl (1 : Int32) rfl ?_
  refine own_iload X872 hx hby at_111 rfl rfl ?_
  have sf874 := own_safe (EL := consts_1) hZ V872
  refine own_castore X872 hx hby hZ y1 hn1 e872 V872 (by decide) 1 rfl (show 1 < 5 by decide) [(.int y0), (.int y1), (.int (0 : Int32)), (.int (0 : Int32)), (.int (0 : Int32))] rfl hf1 N872 ge_b865 at_113 rfl (fun T875 h875 L875 X875 e875 W875 V875 N875 => ?_)
  have f876 := own_Rw f873 W875 sf874
  refine own_dup X875 hx hby at_114 rfl rfl ?_
  refine own_iconst X875 hx hby at_115 rfl (2 : Int32) rfl ?_
  refine own_iload X875 hx hby at_116 rfl rfl ?_
  have sf877 := own_safe (EL := consts_1) hZ V875
  refine own_castore X875 hx hby hZ y2 hn2 e875 V875 (by decide) 2 rfl (show 2 < 5 by decide) [(.int y0), (.int y1), (.int y2), (.int (0 : Int32)), (.int (0 : Int32))] rfl hf2 N875 ge_b865 at_118 rfl (fun T878 h878 L878 X878 e878 W878 V878 N878 => ?_)
  have f879 := own_Rw f876 W878 sf877
  refine own_dup X878 hx hby at_119 rfl rfl ?_
  refine own_iconst X878 hx hby at_120 rfl (3 : Int32) rfl ?_
  refine own_iload X878 hx hby at_121 rfl rfl ?_
  have sf880 := own_safe (EL := consts_1) hZ V878
  refine own_castore X878 hx hby hZ y3 hn3 e878 V878 (by decide) 3 rfl (show 3 < 5 by decide) [(.int y0), (.int y1), (.int y2), (.int y3), (.int (0 : Int32))] rfl hf3 N878 ge_b865 at_123 rfl (fun T881 h881 L881 X881 e881 W881 V881 N881 => ?_)
  have f882 := own_Rw f879 W881 sf880
  refine own_dup X881 hx hby at_124 rfl rfl ?_
  refine own_iconst X881 hx hby at_125 rfl (4 : Int32) rfl ?_
  refine own_iload X881 hx hby at_126 rfl rfl ?_
  have sf883 := own_safe (EL := consts_1) hZ V881
  refine own_castore X881 hx hby hZ y4 hn4 e881 V881 (by decide) 4 rfl (show 4 < 5 by decide) [(.int y0), (.int y1), (.int y2), (.int y3), (.int y4)] rfl hf4 N881 ge_b865 at_128 rfl (fun T884 h884 L884 X884 e884 W884 V884 N884 => ?_)
  have f885 := own_Rw f882 W884 sf883
  refine own_astore X884 hx hby at_129 rfl #[.val (.int x0), .val (.int x1), .val (.int x2), .val (.int x3), .val (.int x4), .val (.int x5), .val (.int ((x0 &&& (2147483647 : Int32)) % (9 : Int32))), .val (.int y0), .val (.int y1), .val (.int y2), .val (.int y3), .val (.int y4), .val (.ref b821), .val (.ref b826), .val (.ref b835), .val (.ref b848), .val (.ref b865), .unset, .unset] rfl rfl ?_
  rcases own_sel x0 with hz | hz | hz | hz | hz | hz | hz | hz | hz
  · -- 0
    rw [hz]
    show Ends p.tables e below _ (T884.setTop (mkF m 131 #[.val (.int x0), .val (.int x1), .val (.int x2), .val (.int x3), .val (.int x4), .val (.int x5), .val (.int (0 : Int32)), .val (.int y0), .val (.int y1), .val (.int y2), .val (.int y3), .val (.int y4), .val (.ref b821), .val (.ref b826), .val (.ref b835), .val (.ref b848), .val (.ref b865), .unset, .unset] []))
    refine own_iload X884 hx hby at_131 rfl rfl ?_
    refine own_if_ne X884 hx hby at_133 (pcY := 146) (pcN := 136) (by decide) rfl (fun (hc886 : ¬ (0 : Int32) = (0 : Int32)) => False.elim (by exact absurd hc886 (by decide))) (fun (hc886 : (0 : Int32) = (0 : Int32)) => ?_)
    have f888 := (Nat.le_trans (Nat.le_trans (Nat.le_trans (Nat.le_trans (Nat.le_trans (Nat.le_trans (Nat.le_trans (Nat.le_trans (Nat.le_trans (Nat.le_trans (Nat.le_trans (Nat.le_trans (Nat.le_trans (Nat.le_trans (Nat.le_trans (Nat.le_trans (Nat.le_trans (Nat.le_trans (Nat.le_trans (Nat.le_trans (Nat.le_refl _) E821.1) (Keep.of_wr W824).1) E826.1) (Keep.of_wr W830).1) (Keep.of_wr W833).1) E835.1) (Keep.of_wr W840).1) (Keep.of_wr W843).1) (Keep.of_wr W846).1) E848.1) (Keep.of_wr W854).1) (Keep.of_wr W857).1) (Keep.of_wr W860).1) (Keep.of_wr W863).1) E865.1) (Keep.of_wr W872).1) (Keep.of_wr W875).1) (Keep.of_wr W878).1) (Keep.of_wr W881).1) (Keep.of_wr W884).1)
    refine own_ldcH X884 hx hby hZ hown (hw _ tw_2) (own_satoms hw) e884 hS f888 hEL (show ("com/example/uni_errors/unierrors/CorrelationHeadersIsValidIdPinLaw", (8 : Nat)) ∈ consts_1 by decide) f885.1 [] (0 : Int32) (by decide +kernel) (by decide) (by decide +kernel) 0 (by decide +kernel) (by decide) (by decide) (by decide) at_136 rfl (fun b887 T887 h887 k887 c887 j887 X887 e887 E887 hS hk887 hZ hown A887 B887 D887 V887 C887 S887 => ?_)
    have R887 := f885.trans C887
    show Ends p.tables e below _ (T887.setTop (mkF m 138 #[.val (.int x0), .val (.int x1), .val (.int x2), .val (.int x3), .val (.int x4), .val (.int x5), .val (.int (0 : Int32)), .val (.int y0), .val (.int y1), .val (.int y2), .val (.int y3), .val (.int y4), .val (.ref b821), .val (.ref b826), .val (.ref b835), .val (.ref b848), .val (.ref b865), .unset, .unset] [(.ref b887)]))
    refine own_astore X887 hx hby at_138 rfl #[.val (.int x0), .val (.int x1), .val (.int x2), .val (.int x3), .val (.int x4), .val (.int x5), .val (.int (0 : Int32)), .val (.int y0), .val (.int y1), .val (.int y2), .val (.int y3), .val (.int y4), .val (.ref b821), .val (.ref b826), .val (.ref b835), .val (.ref b848), .val (.ref b865), .val (.ref b887), .unset] rfl rfl ?_
    refine own_iconst X887 hx hby at_140 rfl (0 : Int32) rfl ?_
    refine own_istore X887 hx hby at_141 rfl #[.val (.int x0), .val (.int x1), .val (.int x2), .val (.int x3), .val (.int x4), .val (.int x5), .val (.int (0 : Int32)), .val (.int y0), .val (.int y1), .val (.int y2), .val (.int y3), .val (.int y4), .val (.ref b821), .val (.ref b826), .val (.ref b835), .val (.ref b848), .val (.ref b865), .val (.ref b887), .val (.int (0 : Int32))] rfl ?_
    refine own_goto X887 hx hby at_143 (pc' := 481) (by decide) ?_
    refine own_aload X887 hx hby at_481 rfl rfl rfl ?_
    have f890 := (((((((f866.ext E865).wr W872 ge_b865).wr W875 ge_b865).wr W878 ge_b865).wr W881 ge_b865).wr W884 ge_b865).ext E887)
    refine own_static X887 hx hby hZ (argsL := [(.ref b887)]) (rest := []) hown (hw _ tw_10) (hw _ tw_11) (hw _ tw_12) (hw _ tw_13) (by decide) (rmvempty l Z a0 hw b887 h887 G (f890).2 A887 B887 D887 V887) e887 (by rw [hml]; rfl) pd_17 rfl (by decide) (W := 0) (Nat.le_refl _) (by decide) (by decide) (by decide) at_483 rfl rfl (fun v889 T889 L889 X889 hQ889 => ?_)
    obtain ⟨rfl, rfl, e889⟩ := hQ889
    show Ends p.tables e below _ (T889.setTop (mkF m 486 #[.val (.int x0), .val (.int x1), .val (.int x2), .val (.int x3), .val (.int x4), .val (.int x5), .val (.int (0 : Int32)), .val (.int y0), .val (.int y1), .val (.int y2), .val (.int y3), .val (.int y4), .val (.ref b821), .val (.ref b826), .val (.ref b835), .val (.ref b848), .val (.ref b865), .val (.ref b887), .val (.int (0 : Int32))] [(.int (0 : Int32))]))
    refine own_iload X889 hx hby at_486 rfl rfl ?_
    refine own_icmp_ne X889 hx hby at_488 (pcY := 495) (pcN := 491) (by decide) rfl (fun (hc891 : ¬ (0 : Int32) = (0 : Int32)) => False.elim (by exact absurd hc891 (by decide))) (fun (hc891 : (0 : Int32) = (0 : Int32)) => ?_)
    refine own_iconst X889 hx hby at_491 rfl (1 : Int32) rfl ?_
    refine own_goto X889 hx hby at_492 (pc' := 496) (by decide) ?_
    refine own_retH X889 hx hby hret hlk at_496 (.int (1 : Int32)) rfl (Or.inl ⟨rfl, by simp, _, rfl⟩) hZ hEL (by rw [show T889.heap = _ from e889, show s.heap = _ from eh]; exact R887) hS (by rw [show T889.heap = _ from e889]; exact hk887) (by decide) (by decide) ?_
    exact ⟨rfl, (Fr.app N884 (Fr.nil _))⟩
  · -- 1
    rw [hz]
    show Ends p.tables e below _ (T884.setTop (mkF m 131 #[.val (.int x0), .val (.int x1), .val (.int x2), .val (.int x3), .val (.int x4), .val (.int x5), .val (.int (1 : Int32)), .val (.int y0), .val (.int y1), .val (.int y2), .val (.int y3), .val (.int y4), .val (.ref b821), .val (.ref b826), .val (.ref b835), .val (.ref b848), .val (.ref b865), .unset, .unset] []))
    refine own_iload X884 hx hby at_131 rfl rfl ?_
    refine own_if_ne X884 hx hby at_133 (pcY := 146) (pcN := 136) (by decide) rfl (fun (hc892 : ¬ (1 : Int32) = (0 : Int32)) => ?_) (fun (hc892 : (1 : Int32) = (0 : Int32)) => False.elim (by exact absurd hc892 (by decide)))
    refine own_iload X884 hx hby at_146 rfl rfl ?_
    refine own_iconst X884 hx hby at_148 rfl (1 : Int32) rfl ?_
    refine own_icmp_ne X884 hx hby at_149 (pcY := 173) (pcN := 152) (by decide) rfl (fun (hc893 : ¬ (1 : Int32) = (1 : Int32)) => False.elim (by exact absurd hc893 (by decide))) (fun (hc893 : (1 : Int32) = (1 : Int32)) => ?_)
    have f895 := ((((((f866.ext E865).wr W872 ge_b865).wr W875 ge_b865).wr W878 ge_b865).wr W881 ge_b865).wr W884 ge_b865)
    refine own_new X884 hx hby hZ hown (hw _ tw_20) (hw _ tw_4) (hw _ tw_3) e884 (by decide) (by decide) at_152 rfl (fun T894 h894 b894 X894 e894 g894 E894 A894 D894 => ?_)
    have ge_b894 : n0 ≤ b894 := own_ge f895 g894
    have ne_b865_b894 : b865 ≠ b894 := own_lt V884.lt g894
    have f896 := ((((((f867.ext E865).other W872 ne_b821_b865).other W875 ne_b821_b865).other W878 ne_b821_b865).other W881 ne_b821_b865).other W884 ne_b821_b865)
    have ne_b821_b894 : b821 ≠ b894 := own_lt f896.lt g894
    have f897 := ((((((f868.ext E865).other W872 ne_b826_b865).other W875 ne_b826_b865).other W878 ne_b826_b865).other W881 ne_b826_b865).other W884 ne_b826_b865)
    have ne_b826_b894 : b826 ≠ b894 := own_lt f897.lt g894
    have f898 := ((((((f869.ext E865).other W872 ne_b835_b865).other W875 ne_b835_b865).other W878 ne_b835_b865).other W881 ne_b835_b865).other W884 ne_b835_b865)
    have ne_b835_b894 : b835 ≠ b894 := own_lt f898.lt g894
    have f899 := ((((((V863.ext E865).other W872 ne_b848_b865).other W875 ne_b848_b865).other W878 ne_b848_b865).other W881 ne_b848_b865).other W884 ne_b848_b865)
    have ne_b848_b894 : b848 ≠ b894 := own_lt f899.lt g894
    have F894_value : Fld Z h894 b894 "java/lang/String" "value" "[B" .null := D894 (Or.inr (hw _ tw_6)) (ty := (.array .byte)) (by decide)
    have F894_coder : Fld Z h894 b894 "java/lang/String" "coder" "B" (.int (0 : Int32)) := D894 (Or.inr (hw _ tw_7)) (ty := .byte) (by decide)
    have sf_b894 := Safe.ext E894 f885.1 (Safe.new (EL := consts_1) (Nat.le_of_eq g894.symm))
    refine own_dup X894 hx hby at_155 rfl rfl ?_
    refine own_aload X894 hx hby at_156 rfl rfl rfl ?_
    have f901 := (f895.ext E894)
    have f902 := (f896.ext E894)
    refine own_special X894 hx hby hZ (a := b894) (argsL := [(.ref b821)]) (rest := [(.ref b894)]) hown rfl (hw _ tw_21) (hw _ tw_22) (hw _ tw_3) (hw _ tw_23) (by decide) (rmi1_1 l Z a0 hw b894 b821 h894 n0 G ge_b894 A894 F894_coder F894_value f901 hr0 f902) e894 (by rw [hml]; rfl) pd_18 rfl (by decide) (W := 1) (Nat.le_refl _) (by decide) (by decide) (by decide) at_158 rfl rfl (fun v900 T900 L900 X900 hQ900 => ?_)
    rcases hQ900 with ⟨b900, k900, rfl, N900q, K900, D900, (⟨al900, B900, V900⟩ | ⟨B900, V900⟩)⟩
    · -- latin
      show Ends p.tables e below _ (T900.setTop (mkF m 161 #[.val (.int x0), .val (.int x1), .val (.int x2), .val (.int x3), .val (.int x4), .val (.int x5), .val (.int (1 : Int32)), .val (.int y0), .val (.int y1), .val (.int y2), .val (.int y3), .val (.int y4), .val (.ref b821), .val (.ref b826), .val (.ref b835), .val (.ref b848), .val (.ref b865), .unset, .unset] [(.ref b894)]))
      refine own_astore X900 hx hby at_161 rfl #[.val (.int x0), .val (.int x1), .val (.int x2), .val (.int x3), .val (.int x4), .val (.int x5), .val (.int (1 : Int32)), .val (.int y0), .val (.int y1), .val (.int y2), .val (.int y3), .val (.int y4), .val (.ref b821), .val (.ref b826), .val (.ref b835), .val (.ref b848), .val (.ref b865), .val (.ref b894), .unset] rfl rfl ?_
      refine own_iload X900 hx hby at_163 rfl rfl ?_
      refine own_static X900 hx hby hZ (argsL := [(.int y0)]) (rest := []) hown (hw _ tw_43) (hw _ tw_44) (hw _ tw_45) (hw _ tw_46) (by decide) (rm9 l Z a0 hw y0 T900.heap) rfl (by rw [hml]; rfl) pd_19 rfl (by decide) (W := 0) (Nat.le_refl _) (by decide) (by decide) (by decide) at_165 rfl rfl (fun v903 T903 L903 X903 hQ903 => ?_)
      obtain ⟨rfl, rfl, e903⟩ := hQ903
      show Ends p.tables e below _ (T903.setTop (mkF m 168 #[.val (.int x0), .val (.int x1), .val (.int x2), .val (.int x3), .val (.int x4), .val (.int x5), .val (.int (1 : Int32)), .val (.int y0), .val (.int y1), .val (.int y2), .val (.int y3), .val (.int y4), .val (.ref b821), .val (.ref b826), .val (.ref b835), .val (.ref b848), .val (.ref b865), .val (.ref b894), .unset] [(.int (own_ok y0))]))
      refine own_istore X903 hx hby at_168 rfl #[.val (.int x0), .val (.int x1), .val (.int x2), .val (.int x3), .val (.int x4), .val (.int x5), .val (.int (1 : Int32)), .val (.int y0), .val (.int y1), .val (.int y2), .val (.int y3), .val (.int y4), .val (.ref b821), .val (.ref b826), .val (.ref b835), .val (.ref b848), .val (.ref b865), .val (.ref b894), .val (.int (own_ok y0))] rfl ?_
      refine own_goto X903 hx hby at_170 (pc' := 481) (by decide) ?_
      refine own_aload X903 hx hby at_481 rfl rfl rfl ?_
      have f905 := (f901.keep K900 (allS ge_b894 all0))
      have f906 := (A894.keep K900)
      refine own_static X903 hx hby hZ (argsL := [(.ref b894)]) (rest := []) hown (hw _ tw_10) (hw _ tw_11) (hw _ tw_12) (hw _ tw_13) (by decide) (rmv0_1 l Z a0 hw b894 T900.heap G (f905).2 ⟨hr0.1, by have q := al900; omega⟩ f906 B900 D900 V900) e903 (by rw [hml]; rfl) pd_17 rfl (by decide) (W := 0) (Nat.le_refl _) (by decide) (by decide) (by decide) at_483 rfl rfl (fun v904 T904 L904 X904 hQ904 => ?_)
      obtain ⟨rfl, rfl, e904⟩ := hQ904
      show Ends p.tables e below _ (T904.setTop (mkF m 486 #[.val (.int x0), .val (.int x1), .val (.int x2), .val (.int x3), .val (.int x4), .val (.int x5), .val (.int (1 : Int32)), .val (.int y0), .val (.int y1), .val (.int y2), .val (.int y3), .val (.int y4), .val (.ref b821), .val (.ref b826), .val (.ref b835), .val (.ref b848), .val (.ref b865), .val (.ref b894), .val (.int (own_ok y0))] [(.int (own_all [y0]))]))
      refine own_iload X904 hx hby at_486 rfl rfl ?_
      refine own_icmp_ne X904 hx hby at_488 (pcY := 495) (pcN := 491) (by decide) rfl (fun (hc907 : ¬ (own_all [y0]) = (own_ok y0)) => False.elim (by exact hc907 (by rcases own_ok01 y0 with q | q <;> rw [q] <;> first | (rw [own_all0 q]) | (rw [own_all1 (by rw [q]; decide)]; rfl)))) (fun (hc907 : (own_all [y0]) = (own_ok y0)) => ?_)
      refine own_iconst X904 hx hby at_491 rfl (1 : Int32) rfl ?_
      refine own_goto X904 hx hby at_492 (pc' := 496) (by decide) ?_
      have f908 := (own_Rk (own_Re f885 E894) K900 (allS sf_b894 all0))
      have f909 := (Nat.le_trans (Nat.le_trans (Nat.le_trans (Nat.le_trans (Nat.le_trans (Nat.le_trans (Nat.le_trans (Nat.le_trans (Nat.le_trans (Nat.le_trans (Nat.le_trans (Nat.le_trans (Nat.le_trans (Nat.le_trans (Nat.le_trans (Nat.le_trans (Nat.le_trans (Nat.le_trans (Nat.le_trans (Nat.le_trans (Nat.le_trans (Nat.le_trans (Nat.le_refl _) E821.1) (Keep.of_wr W824).1) E826.1) (Keep.of_wr W830).1) (Keep.of_wr W833).1) E835.1) (Keep.of_wr W840).1) (Keep.of_wr W843).1) (Keep.of_wr W846).1) E848.1) (Keep.of_wr W854).1) (Keep.of_wr W857).1) (Keep.of_wr W860).1) (Keep.of_wr W863).1) E865.1) (Keep.of_wr W872).1) (Keep.of_wr W875).1) (Keep.of_wr W878).1) (Keep.of_wr W881).1) (Keep.of_wr W884).1) E894.1) K900.1)
      refine own_retH X904 hx hby hret hlk at_496 (.int (1 : Int32)) rfl (Or.inl ⟨rfl, by simp, _, rfl⟩) hZ hEL (by rw [show T904.heap = _ from e904, show s.heap = _ from eh]; exact f908) hS (by rw [show T904.heap = _ from e904]; exact f909) (by decide) (by decide) ?_
      exact ⟨rfl, (Fr.app (Fr.app (Fr.app N884 N900q) (Fr.nil _)) (Fr.nil _))⟩
    · -- wide
      show Ends p.tables e below _ (T900.setTop (mkF m 161 #[.val (.int x0), .val (.int x1), .val (.int x2), .val (.int x3), .val (.int x4), .val (.int x5), .val (.int (1 : Int32)), .val (.int y0), .val (.int y1), .val (.int y2), .val (.int y3), .val (.int y4), .val (.ref b821), .val (.ref b826), .val (.ref b835), .val (.ref b848), .val (.ref b865), .unset, .unset] [(.ref b894)]))
      refine own_astore X900 hx hby at_161 rfl #[.val (.int x0), .val (.int x1), .val (.int x2), .val (.int x3), .val (.int x4), .val (.int x5), .val (.int (1 : Int32)), .val (.int y0), .val (.int y1), .val (.int y2), .val (.int y3), .val (.int y4), .val (.ref b821), .val (.ref b826), .val (.ref b835), .val (.ref b848), .val (.ref b865), .val (.ref b894), .unset] rfl rfl ?_
      refine own_iload X900 hx hby at_163 rfl rfl ?_
      refine own_static X900 hx hby hZ (argsL := [(.int y0)]) (rest := []) hown (hw _ tw_43) (hw _ tw_44) (hw _ tw_45) (hw _ tw_46) (by decide) (rm9 l Z a0 hw y0 T900.heap) rfl (by rw [hml]; rfl) pd_19 rfl (by decide) (W := 0) (Nat.le_refl _) (by decide) (by decide) (by decide) at_165 rfl rfl (fun v910 T910 L910 X910 hQ910 => ?_)
      obtain ⟨rfl, rfl, e910⟩ := hQ910
      show Ends p.tables e below _ (T910.setTop (mkF m 168 #[.val (.int x0), .val (.int x1), .val (.int x2), .val (.int x3), .val (.int x4), .val (.int x5), .val (.int (1 : Int32)), .val (.int y0), .val (.int y1), .val (.int y2), .val (.int y3), .val (.int y4), .val (.ref b821), .val (.ref b826), .val (.ref b835), .val (.ref b848), .val (.ref b865), .val (.ref b894), .unset] [(.int (own_ok y0))]))
      refine own_istore X910 hx hby at_168 rfl #[.val (.int x0), .val (.int x1), .val (.int x2), .val (.int x3), .val (.int x4), .val (.int x5), .val (.int (1 : Int32)), .val (.int y0), .val (.int y1), .val (.int y2), .val (.int y3), .val (.int y4), .val (.ref b821), .val (.ref b826), .val (.ref b835), .val (.ref b848), .val (.ref b865), .val (.ref b894), .val (.int (own_ok y0))] rfl ?_
      refine own_goto X910 hx hby at_170 (pc' := 481) (by decide) ?_
      refine own_aload X910 hx hby at_481 rfl rfl rfl ?_
      have f912 := (f901.keep K900 (allS ge_b894 all0))
      have f913 := (A894.keep K900)
      refine own_static X910 hx hby hZ (argsL := [(.ref b894)]) (rest := []) hown (hw _ tw_10) (hw _ tw_11) (hw _ tw_12) (hw _ tw_13) (by decide) (rmv1_1 l Z a0 hw b894 T900.heap G (f912).2 hr0 f913 B900 D900 V900) e910 (by rw [hml]; rfl) pd_17 rfl (by decide) (W := 0) (Nat.le_refl _) (by decide) (by decide) (by decide) at_483 rfl rfl (fun v911 T911 L911 X911 hQ911 => ?_)
      obtain ⟨rfl, rfl, e911⟩ := hQ911
      show Ends p.tables e below _ (T911.setTop (mkF m 486 #[.val (.int x0), .val (.int x1), .val (.int x2), .val (.int x3), .val (.int x4), .val (.int x5), .val (.int (1 : Int32)), .val (.int y0), .val (.int y1), .val (.int y2), .val (.int y3), .val (.int y4), .val (.ref b821), .val (.ref b826), .val (.ref b835), .val (.ref b848), .val (.ref b865), .val (.ref b894), .val (.int (own_ok y0))] [(.int (own_all [y0]))]))
      refine own_iload X911 hx hby at_486 rfl rfl ?_
      refine own_icmp_ne X911 hx hby at_488 (pcY := 495) (pcN := 491) (by decide) rfl (fun (hc914 : ¬ (own_all [y0]) = (own_ok y0)) => False.elim (by exact hc914 (by rcases own_ok01 y0 with q | q <;> rw [q] <;> first | (rw [own_all0 q]) | (rw [own_all1 (by rw [q]; decide)]; rfl)))) (fun (hc914 : (own_all [y0]) = (own_ok y0)) => ?_)
      refine own_iconst X911 hx hby at_491 rfl (1 : Int32) rfl ?_
      refine own_goto X911 hx hby at_492 (pc' := 496) (by decide) ?_
      have f915 := (own_Rk (own_Re f885 E894) K900 (allS sf_b894 all0))
      have f916 := (Nat.le_trans (Nat.le_trans (Nat.le_trans (Nat.le_trans (Nat.le_trans (Nat.le_trans (Nat.le_trans (Nat.le_trans (Nat.le_trans (Nat.le_trans (Nat.le_trans (Nat.le_trans (Nat.le_trans (Nat.le_trans (Nat.le_trans (Nat.le_trans (Nat.le_trans (Nat.le_trans (Nat.le_trans (Nat.le_trans (Nat.le_trans (Nat.le_trans (Nat.le_refl _) E821.1) (Keep.of_wr W824).1) E826.1) (Keep.of_wr W830).1) (Keep.of_wr W833).1) E835.1) (Keep.of_wr W840).1) (Keep.of_wr W843).1) (Keep.of_wr W846).1) E848.1) (Keep.of_wr W854).1) (Keep.of_wr W857).1) (Keep.of_wr W860).1) (Keep.of_wr W863).1) E865.1) (Keep.of_wr W872).1) (Keep.of_wr W875).1) (Keep.of_wr W878).1) (Keep.of_wr W881).1) (Keep.of_wr W884).1) E894.1) K900.1)
      refine own_retH X911 hx hby hret hlk at_496 (.int (1 : Int32)) rfl (Or.inl ⟨rfl, by simp, _, rfl⟩) hZ hEL (by rw [show T911.heap = _ from e911, show s.heap = _ from eh]; exact f915) hS (by rw [show T911.heap = _ from e911]; exact f916) (by decide) (by decide) ?_
      exact ⟨rfl, (Fr.app (Fr.app (Fr.app N884 N900q) (Fr.nil _)) (Fr.nil _))⟩
  · -- 2
    rw [hz]
    show Ends p.tables e below _ (T884.setTop (mkF m 131 #[.val (.int x0), .val (.int x1), .val (.int x2), .val (.int x3), .val (.int x4), .val (.int x5), .val (.int (2 : Int32)), .val (.int y0), .val (.int y1), .val (.int y2), .val (.int y3), .val (.int y4), .val (.ref b821), .val (.ref b826), .val (.ref b835), .val (.ref b848), .val (.ref b865), .unset, .unset] []))
    refine own_iload X884 hx hby at_131 rfl rfl ?_
    refine own_if_ne X884 hx hby at_133 (pcY := 146) (pcN := 136) (by decide) rfl (fun (hc917 : ¬ (2 : Int32) = (0 : Int32)) => ?_) (fun (hc917 : (2 : Int32) = (0 : Int32)) => False.elim (by exact absurd hc917 (by decide)))
    refine own_iload X884 hx hby at_146 rfl rfl ?_
    refine own_iconst X884 hx hby at_148 rfl (1 : Int32) rfl ?_
    refine own_icmp_ne X884 hx hby at_149 (pcY := 173) (pcN := 152) (by decide) rfl (fun (hc918 : ¬ (2 : Int32) = (1 : Int32)) => ?_) (fun (hc918 : (2 : Int32) = (1 : Int32)) => False.elim (by exact absurd hc918 (by decide)))
    refine own_iload X884 hx hby at_173 rfl rfl ?_
    refine own_iconst X884 hx hby at_175 rfl (2 : Int32) rfl ?_
    refine own_icmp_ne X884 hx hby at_176 (pcY := 216) (pcN := 179) (by decide) rfl (fun (hc919 : ¬ (2 : Int32) = (2 : Int32)) => False.elim (by exact absurd hc919 (by decide))) (fun (hc919 : (2 : Int32) = (2 : Int32)) => ?_)
    have f921 := ((((((f866.ext E865).wr W872 ge_b865).wr W875 ge_b865).wr W878 ge_b865).wr W881 ge_b865).wr W884 ge_b865)
    refine own_new X884 hx hby hZ hown (hw _ tw_20) (hw _ tw_4) (hw _ tw_3) e884 (by decide) (by decide) at_179 rfl (fun T920 h920 b920 X920 e920 g920 E920 A920 D920 => ?_)
    have ge_b920 : n0 ≤ b920 := own_ge f921 g920
    have ne_b865_b920 : b865 ≠ b920 := own_lt V884.lt g920
    have f922 := ((((((f867.ext E865).other W872 ne_b821_b865).other W875 ne_b821_b865).other W878 ne_b821_b865).other W881 ne_b821_b865).other W884 ne_b821_b865)
    have ne_b821_b920 : b821 ≠ b920 := own_lt f922.lt g920
    have f923 := ((((((f868.ext E865).other W872 ne_b826_b865).other W875 ne_b826_b865).other W878 ne_b826_b865).other W881 ne_b826_b865).other W884 ne_b826_b865)
    have ne_b826_b920 : b826 ≠ b920 := own_lt f923.lt g920
    have f924 := ((((((f869.ext E865).other W872 ne_b835_b865).other W875 ne_b835_b865).other W878 ne_b835_b865).other W881 ne_b835_b865).other W884 ne_b835_b865)
    have ne_b835_b920 : b835 ≠ b920 := own_lt f924.lt g920
    have f925 := ((((((V863.ext E865).other W872 ne_b848_b865).other W875 ne_b848_b865).other W878 ne_b848_b865).other W881 ne_b848_b865).other W884 ne_b848_b865)
    have ne_b848_b920 : b848 ≠ b920 := own_lt f925.lt g920
    have F920_value : Fld Z h920 b920 "java/lang/String" "value" "[B" .null := D920 (Or.inr (hw _ tw_6)) (ty := (.array .byte)) (by decide)
    have F920_coder : Fld Z h920 b920 "java/lang/String" "coder" "B" (.int (0 : Int32)) := D920 (Or.inr (hw _ tw_7)) (ty := .byte) (by decide)
    have sf_b920 := Safe.ext E920 f885.1 (Safe.new (EL := consts_1) (Nat.le_of_eq g920.symm))
    refine own_dup X920 hx hby at_182 rfl rfl ?_
    refine own_aload X920 hx hby at_183 rfl rfl rfl ?_
    have f927 := (f921.ext E920)
    have f928 := (f923.ext E920)
    refine own_special X920 hx hby hZ (a := b920) (argsL := [(.ref b826)]) (rest := [(.ref b920)]) hown rfl (hw _ tw_21) (hw _ tw_22) (hw _ tw_3) (hw _ tw_23) (by decide) (rmi1_2 l Z a0 hw b920 b826 h920 n0 G ge_b920 A920 F920_coder F920_value f927 hr0 hr1 f928) e920 (by rw [hml]; rfl) pd_18 rfl (by decide) (W := 1) (Nat.le_refl _) (by decide) (by decide) (by decide) at_185 rfl rfl (fun v926 T926 L926 X926 hQ926 => ?_)
    rcases hQ926 with ⟨b926, k926, rfl, N926q, K926, D926, (⟨al926, B926, V926⟩ | ⟨B926, V926⟩)⟩
    · -- latin
      show Ends p.tables e below _ (T926.setTop (mkF m 188 #[.val (.int x0), .val (.int x1), .val (.int x2), .val (.int x3), .val (.int x4), .val (.int x5), .val (.int (2 : Int32)), .val (.int y0), .val (.int y1), .val (.int y2), .val (.int y3), .val (.int y4), .val (.ref b821), .val (.ref b826), .val (.ref b835), .val (.ref b848), .val (.ref b865), .unset, .unset] [(.ref b920)]))
      refine own_astore X926 hx hby at_188 rfl #[.val (.int x0), .val (.int x1), .val (.int x2), .val (.int x3), .val (.int x4), .val (.int x5), .val (.int (2 : Int32)), .val (.int y0), .val (.int y1), .val (.int y2), .val (.int y3), .val (.int y4), .val (.ref b821), .val (.ref b826), .val (.ref b835), .val (.ref b848), .val (.ref b865), .val (.ref b920), .unset] rfl rfl ?_
      refine own_iload X926 hx hby at_190 rfl rfl ?_
      refine own_static X926 hx hby hZ (argsL := [(.int y0)]) (rest := []) hown (hw _ tw_43) (hw _ tw_44) (hw _ tw_45) (hw _ tw_46) (by decide) (rm9 l Z a0 hw y0 T926.heap) rfl (by rw [hml]; rfl) pd_19 rfl (by decide) (W := 0) (Nat.le_refl _) (by decide) (by decide) (by decide) at_192 rfl rfl (fun v929 T929 L929 X929 hQ929 => ?_)
      obtain ⟨rfl, rfl, e929⟩ := hQ929
      show Ends p.tables e below _ (T929.setTop (mkF m 195 #[.val (.int x0), .val (.int x1), .val (.int x2), .val (.int x3), .val (.int x4), .val (.int x5), .val (.int (2 : Int32)), .val (.int y0), .val (.int y1), .val (.int y2), .val (.int y3), .val (.int y4), .val (.ref b821), .val (.ref b826), .val (.ref b835), .val (.ref b848), .val (.ref b865), .val (.ref b920), .unset] [(.int (own_ok y0))]))
      refine own_if_eq X929 hx hby at_195 (pcY := 210) (pcN := 198) (by decide) rfl (fun (hc930 : (own_ok y0) = (0 : Int32)) => ?_) (fun (hc930 : ¬ (own_ok y0) = (0 : Int32)) => ?_)
      · -- pc 195: t
        refine own_iconst X929 hx hby at_210 rfl (0 : Int32) rfl ?_
        refine own_istore X929 hx hby at_211 rfl #[.val (.int x0), .val (.int x1), .val (.int x2), .val (.int x3), .val (.int x4), .val (.int x5), .val (.int (2 : Int32)), .val (.int y0), .val (.int y1), .val (.int y2), .val (.int y3), .val (.int y4), .val (.ref b821), .val (.ref b826), .val (.ref b835), .val (.ref b848), .val (.ref b865), .val (.ref b920), .val (.int (0 : Int32))] rfl ?_
        refine own_goto X929 hx hby at_213 (pc' := 481) (by decide) ?_
        refine own_aload X929 hx hby at_481 rfl rfl rfl ?_
        have f932 := (f927.keep K926 (allS ge_b920 all0))
        have f933 := (A920.keep K926)
        refine own_static X929 hx hby hZ (argsL := [(.ref b920)]) (rest := []) hown (hw _ tw_10) (hw _ tw_11) (hw _ tw_12) (hw _ tw_13) (by decide) (rmv0_2 l Z a0 hw b920 T926.heap G (f932).2 ⟨hr0.1, by have q := al926; omega⟩ ⟨hr1.1, by have q := al926; omega⟩ f933 B926 D926 V926) e929 (by rw [hml]; rfl) pd_17 rfl (by decide) (W := 0) (Nat.le_refl _) (by decide) (by decide) (by decide) at_483 rfl rfl (fun v931 T931 L931 X931 hQ931 => ?_)
        obtain ⟨rfl, rfl, e931⟩ := hQ931
        show Ends p.tables e below _ (T931.setTop (mkF m 486 #[.val (.int x0), .val (.int x1), .val (.int x2), .val (.int x3), .val (.int x4), .val (.int x5), .val (.int (2 : Int32)), .val (.int y0), .val (.int y1), .val (.int y2), .val (.int y3), .val (.int y4), .val (.ref b821), .val (.ref b826), .val (.ref b835), .val (.ref b848), .val (.ref b865), .val (.ref b920), .val (.int (0 : Int32))] [(.int (own_all [y0, y1]))]))
        refine own_iload X931 hx hby at_486 rfl rfl ?_
        refine own_icmp_ne X931 hx hby at_488 (pcY := 495) (pcN := 491) (by decide) rfl (fun (hc934 : ¬ (own_all [y0, y1]) = (0 : Int32)) => False.elim (by exact hc934 (by rw [own_all0 hc930]))) (fun (hc934 : (own_all [y0, y1]) = (0 : Int32)) => ?_)
        refine own_iconst X931 hx hby at_491 rfl (1 : Int32) rfl ?_
        refine own_goto X931 hx hby at_492 (pc' := 496) (by decide) ?_
        have f935 := (own_Rk (own_Re f885 E920) K926 (allS sf_b920 all0))
        have f936 := (Nat.le_trans (Nat.le_trans (Nat.le_trans (Nat.le_trans (Nat.le_trans (Nat.le_trans (Nat.le_trans (Nat.le_trans (Nat.le_trans (Nat.le_trans (Nat.le_trans (Nat.le_trans (Nat.le_trans (Nat.le_trans (Nat.le_trans (Nat.le_trans (Nat.le_trans (Nat.le_trans (Nat.le_trans (Nat.le_trans (Nat.le_trans (Nat.le_trans (Nat.le_refl _) E821.1) (Keep.of_wr W824).1) E826.1) (Keep.of_wr W830).1) (Keep.of_wr W833).1) E835.1) (Keep.of_wr W840).1) (Keep.of_wr W843).1) (Keep.of_wr W846).1) E848.1) (Keep.of_wr W854).1) (Keep.of_wr W857).1) (Keep.of_wr W860).1) (Keep.of_wr W863).1) E865.1) (Keep.of_wr W872).1) (Keep.of_wr W875).1) (Keep.of_wr W878).1) (Keep.of_wr W881).1) (Keep.of_wr W884).1) E920.1) K926.1)
        refine own_retH X931 hx hby hret hlk at_496 (.int (1 : Int32)) rfl (Or.inl ⟨rfl, by simp, _, rfl⟩) hZ hEL (by rw [show T931.heap = _ from e931, show s.heap = _ from eh]; exact f935) hS (by rw [show T931.heap = _ from e931]; exact f936) (by decide) (by decide) ?_
        exact ⟨rfl, (Fr.app (Fr.app (Fr.app N884 N926q) (Fr.nil _)) (Fr.nil _))⟩
      · -- pc 195: f
        refine own_iload X929 hx hby at_198 rfl rfl ?_
        refine own_static X929 hx hby hZ (argsL := [(.int y1)]) (rest := []) hown (hw _ tw_43) (hw _ tw_44) (hw _ tw_45) (hw _ tw_46) (by decide) (rm9 l Z a0 hw y1 T926.heap) e929 (by rw [hml]; rfl) pd_19 rfl (by decide) (W := 0) (Nat.le_refl _) (by decide) (by decide) (by decide) at_200 rfl rfl (fun v937 T937 L937 X937 hQ937 => ?_)
        obtain ⟨rfl, rfl, e937⟩ := hQ937
        show Ends p.tables e below _ (T937.setTop (mkF m 203 #[.val (.int x0), .val (.int x1), .val (.int x2), .val (.int x3), .val (.int x4), .val (.int x5), .val (.int (2 : Int32)), .val (.int y0), .val (.int y1), .val (.int y2), .val (.int y3), .val (.int y4), .val (.ref b821), .val (.ref b826), .val (.ref b835), .val (.ref b848), .val (.ref b865), .val (.ref b920), .unset] [(.int (own_ok y1))]))
        refine own_if_eq X937 hx hby at_203 (pcY := 210) (pcN := 206) (by decide) rfl (fun (hc938 : (own_ok y1) = (0 : Int32)) => ?_) (fun (hc938 : ¬ (own_ok y1) = (0 : Int32)) => ?_)
        · -- pc 203: t
          refine own_iconst X937 hx hby at_210 rfl (0 : Int32) rfl ?_
          refine own_istore X937 hx hby at_211 rfl #[.val (.int x0), .val (.int x1), .val (.int x2), .val (.int x3), .val (.int x4), .val (.int x5), .val (.int (2 : Int32)), .val (.int y0), .val (.int y1), .val (.int y2), .val (.int y3), .val (.int y4), .val (.ref b821), .val (.ref b826), .val (.ref b835), .val (.ref b848), .val (.ref b865), .val (.ref b920), .val (.int (0 : Int32))] rfl ?_
          refine own_goto X937 hx hby at_213 (pc' := 481) (by decide) ?_
          refine own_aload X937 hx hby at_481 rfl rfl rfl ?_
          have f940 := (f927.keep K926 (allS ge_b920 all0))
          have f941 := (A920.keep K926)
          refine own_static X937 hx hby hZ (argsL := [(.ref b920)]) (rest := []) hown (hw _ tw_10) (hw _ tw_11) (hw _ tw_12) (hw _ tw_13) (by decide) (rmv0_2 l Z a0 hw b920 T926.heap G (f940).2 ⟨hr0.1, by have q := al926; omega⟩ ⟨hr1.1, by have q := al926; omega⟩ f941 B926 D926 V926) e937 (by rw [hml]; rfl) pd_17 rfl (by decide) (W := 0) (Nat.le_refl _) (by decide) (by decide) (by decide) at_483 rfl rfl (fun v939 T939 L939 X939 hQ939 => ?_)
          obtain ⟨rfl, rfl, e939⟩ := hQ939
          show Ends p.tables e below _ (T939.setTop (mkF m 486 #[.val (.int x0), .val (.int x1), .val (.int x2), .val (.int x3), .val (.int x4), .val (.int x5), .val (.int (2 : Int32)), .val (.int y0), .val (.int y1), .val (.int y2), .val (.int y3), .val (.int y4), .val (.ref b821), .val (.ref b826), .val (.ref b835), .val (.ref b848), .val (.ref b865), .val (.ref b920), .val (.int (0 : Int32))] [(.int (own_all [y0, y1]))]))
          refine own_iload X939 hx hby at_486 rfl rfl ?_
          refine own_icmp_ne X939 hx hby at_488 (pcY := 495) (pcN := 491) (by decide) rfl (fun (hc942 : ¬ (own_all [y0, y1]) = (0 : Int32)) => False.elim (by exact hc942 (by rw [own_all1 hc930, own_all0 hc938]))) (fun (hc942 : (own_all [y0, y1]) = (0 : Int32)) => ?_)
          refine own_iconst X939 hx hby at_491 rfl (1 : Int32) rfl ?_
          refine own_goto X939 hx hby at_492 (pc' := 496) (by decide) ?_
          have f943 := (own_Rk (own_Re f885 E920) K926 (allS sf_b920 all0))
          have f944 := (Nat.le_trans (Nat.le_trans (Nat.le_trans (Nat.le_trans (Nat.le_trans (Nat.le_trans (Nat.le_trans (Nat.le_trans (Nat.le_trans (Nat.le_trans (Nat.le_trans (Nat.le_trans (Nat.le_trans (Nat.le_trans (Nat.le_trans (Nat.le_trans (Nat.le_trans (Nat.le_trans (Nat.le_trans (Nat.le_trans (Nat.le_trans (Nat.le_trans (Nat.le_refl _) E821.1) (Keep.of_wr W824).1) E826.1) (Keep.of_wr W830).1) (Keep.of_wr W833).1) E835.1) (Keep.of_wr W840).1) (Keep.of_wr W843).1) (Keep.of_wr W846).1) E848.1) (Keep.of_wr W854).1) (Keep.of_wr W857).1) (Keep.of_wr W860).1) (Keep.of_wr W863).1) E865.1) (Keep.of_wr W872).1) (Keep.of_wr W875).1) (Keep.of_wr W878).1) (Keep.of_wr W881).1) (Keep.of_wr W884).1) E920.1) K926.1)
          refine own_retH X939 hx hby hret hlk at_496 (.int (1 : Int32)) rfl (Or.inl ⟨rfl, by simp, _, rfl⟩) hZ hEL (by rw [show T939.heap = _ from e939, show s.heap = _ from eh]; exact f943) hS (by rw [show T939.heap = _ from e939]; exact f944) (by decide) (by decide) ?_
          exact ⟨rfl, (Fr.app (Fr.app (Fr.app (Fr.app N884 N926q) (Fr.nil _)) (Fr.nil _)) (Fr.nil _))⟩
        · -- pc 203: f
          refine own_iconst X937 hx hby at_206 rfl (1 : Int32) rfl ?_
          refine own_goto X937 hx hby at_207 (pc' := 211) (by decide) ?_
          refine own_istore X937 hx hby at_211 rfl #[.val (.int x0), .val (.int x1), .val (.int x2), .val (.int x3), .val (.int x4), .val (.int x5), .val (.int (2 : Int32)), .val (.int y0), .val (.int y1), .val (.int y2), .val (.int y3), .val (.int y4), .val (.ref b821), .val (.ref b826), .val (.ref b835), .val (.ref b848), .val (.ref b865), .val (.ref b920), .val (.int (1 : Int32))] rfl ?_
          refine own_goto X937 hx hby at_213 (pc' := 481) (by decide) ?_
          refine own_aload X937 hx hby at_481 rfl rfl rfl ?_
          have f946 := (f927.keep K926 (allS ge_b920 all0))
          have f947 := (A920.keep K926)
          refine own_static X937 hx hby hZ (argsL := [(.ref b920)]) (rest := []) hown (hw _ tw_10) (hw _ tw_11) (hw _ tw_12) (hw _ tw_13) (by decide) (rmv0_2 l Z a0 hw b920 T926.heap G (f946).2 ⟨hr0.1, by have q := al926; omega⟩ ⟨hr1.1, by have q := al926; omega⟩ f947 B926 D926 V926) e937 (by rw [hml]; rfl) pd_17 rfl (by decide) (W := 0) (Nat.le_refl _) (by decide) (by decide) (by decide) at_483 rfl rfl (fun v945 T945 L945 X945 hQ945 => ?_)
          obtain ⟨rfl, rfl, e945⟩ := hQ945
          show Ends p.tables e below _ (T945.setTop (mkF m 486 #[.val (.int x0), .val (.int x1), .val (.int x2), .val (.int x3), .val (.int x4), .val (.int x5), .val (.int (2 : Int32)), .val (.int y0), .val (.int y1), .val (.int y2), .val (.int y3), .val (.int y4), .val (.ref b821), .val (.ref b826), .val (.ref b835), .val (.ref b848), .val (.ref b865), .val (.ref b920), .val (.int (1 : Int32))] [(.int (own_all [y0, y1]))]))
          refine own_iload X945 hx hby at_486 rfl rfl ?_
          refine own_icmp_ne X945 hx hby at_488 (pcY := 495) (pcN := 491) (by decide) rfl (fun (hc948 : ¬ (own_all [y0, y1]) = (1 : Int32)) => False.elim (by exact hc948 (by rw [own_all1 hc930, own_all1 hc938]; rfl))) (fun (hc948 : (own_all [y0, y1]) = (1 : Int32)) => ?_)
          refine own_iconst X945 hx hby at_491 rfl (1 : Int32) rfl ?_
          refine own_goto X945 hx hby at_492 (pc' := 496) (by decide) ?_
          have f949 := (own_Rk (own_Re f885 E920) K926 (allS sf_b920 all0))
          have f950 := (Nat.le_trans (Nat.le_trans (Nat.le_trans (Nat.le_trans (Nat.le_trans (Nat.le_trans (Nat.le_trans (Nat.le_trans (Nat.le_trans (Nat.le_trans (Nat.le_trans (Nat.le_trans (Nat.le_trans (Nat.le_trans (Nat.le_trans (Nat.le_trans (Nat.le_trans (Nat.le_trans (Nat.le_trans (Nat.le_trans (Nat.le_trans (Nat.le_trans (Nat.le_refl _) E821.1) (Keep.of_wr W824).1) E826.1) (Keep.of_wr W830).1) (Keep.of_wr W833).1) E835.1) (Keep.of_wr W840).1) (Keep.of_wr W843).1) (Keep.of_wr W846).1) E848.1) (Keep.of_wr W854).1) (Keep.of_wr W857).1) (Keep.of_wr W860).1) (Keep.of_wr W863).1) E865.1) (Keep.of_wr W872).1) (Keep.of_wr W875).1) (Keep.of_wr W878).1) (Keep.of_wr W881).1) (Keep.of_wr W884).1) E920.1) K926.1)
          refine own_retH X945 hx hby hret hlk at_496 (.int (1 : Int32)) rfl (Or.inl ⟨rfl, by simp, _, rfl⟩) hZ hEL (by rw [show T945.heap = _ from e945, show s.heap = _ from eh]; exact f949) hS (by rw [show T945.heap = _ from e945]; exact f950) (by decide) (by decide) ?_
          exact ⟨rfl, (Fr.app (Fr.app (Fr.app (Fr.app N884 N926q) (Fr.nil _)) (Fr.nil _)) (Fr.nil _))⟩
    · -- wide
      show Ends p.tables e below _ (T926.setTop (mkF m 188 #[.val (.int x0), .val (.int x1), .val (.int x2), .val (.int x3), .val (.int x4), .val (.int x5), .val (.int (2 : Int32)), .val (.int y0), .val (.int y1), .val (.int y2), .val (.int y3), .val (.int y4), .val (.ref b821), .val (.ref b826), .val (.ref b835), .val (.ref b848), .val (.ref b865), .unset, .unset] [(.ref b920)]))
      refine own_astore X926 hx hby at_188 rfl #[.val (.int x0), .val (.int x1), .val (.int x2), .val (.int x3), .val (.int x4), .val (.int x5), .val (.int (2 : Int32)), .val (.int y0), .val (.int y1), .val (.int y2), .val (.int y3), .val (.int y4), .val (.ref b821), .val (.ref b826), .val (.ref b835), .val (.ref b848), .val (.ref b865), .val (.ref b920), .unset] rfl rfl ?_
      refine own_iload X926 hx hby at_190 rfl rfl ?_
      refine own_static X926 hx hby hZ (argsL := [(.int y0)]) (rest := []) hown (hw _ tw_43) (hw _ tw_44) (hw _ tw_45) (hw _ tw_46) (by decide) (rm9 l Z a0 hw y0 T926.heap) rfl (by rw [hml]; rfl) pd_19 rfl (by decide) (W := 0) (Nat.le_refl _) (by decide) (by decide) (by decide) at_192 rfl rfl (fun v951 T951 L951 X951 hQ951 => ?_)
      obtain ⟨rfl, rfl, e951⟩ := hQ951
      show Ends p.tables e below _ (T951.setTop (mkF m 195 #[.val (.int x0), .val (.int x1), .val (.int x2), .val (.int x3), .val (.int x4), .val (.int x5), .val (.int (2 : Int32)), .val (.int y0), .val (.int y1), .val (.int y2), .val (.int y3), .val (.int y4), .val (.ref b821), .val (.ref b826), .val (.ref b835), .val (.ref b848), .val (.ref b865), .val (.ref b920), .unset] [(.int (own_ok y0))]))
      refine own_if_eq X951 hx hby at_195 (pcY := 210) (pcN := 198) (by decide) rfl (fun (hc952 : (own_ok y0) = (0 : Int32)) => ?_) (fun (hc952 : ¬ (own_ok y0) = (0 : Int32)) => ?_)
      · -- pc 195: t
        refine own_iconst X951 hx hby at_210 rfl (0 : Int32) rfl ?_
        refine own_istore X951 hx hby at_211 rfl #[.val (.int x0), .val (.int x1), .val (.int x2), .val (.int x3), .val (.int x4), .val (.int x5), .val (.int (2 : Int32)), .val (.int y0), .val (.int y1), .val (.int y2), .val (.int y3), .val (.int y4), .val (.ref b821), .val (.ref b826), .val (.ref b835), .val (.ref b848), .val (.ref b865), .val (.ref b920), .val (.int (0 : Int32))] rfl ?_
        refine own_goto X951 hx hby at_213 (pc' := 481) (by decide) ?_
        refine own_aload X951 hx hby at_481 rfl rfl rfl ?_
        have f954 := (f927.keep K926 (allS ge_b920 all0))
        have f955 := (A920.keep K926)
        refine own_static X951 hx hby hZ (argsL := [(.ref b920)]) (rest := []) hown (hw _ tw_10) (hw _ tw_11) (hw _ tw_12) (hw _ tw_13) (by decide) (rmv1_2 l Z a0 hw b920 T926.heap G (f954).2 hr0 hr1 f955 B926 D926 V926) e951 (by rw [hml]; rfl) pd_17 rfl (by decide) (W := 0) (Nat.le_refl _) (by decide) (by decide) (by decide) at_483 rfl rfl (fun v953 T953 L953 X953 hQ953 => ?_)
        obtain ⟨rfl, rfl, e953⟩ := hQ953
        show Ends p.tables e below _ (T953.setTop (mkF m 486 #[.val (.int x0), .val (.int x1), .val (.int x2), .val (.int x3), .val (.int x4), .val (.int x5), .val (.int (2 : Int32)), .val (.int y0), .val (.int y1), .val (.int y2), .val (.int y3), .val (.int y4), .val (.ref b821), .val (.ref b826), .val (.ref b835), .val (.ref b848), .val (.ref b865), .val (.ref b920), .val (.int (0 : Int32))] [(.int (own_all [y0, y1]))]))
        refine own_iload X953 hx hby at_486 rfl rfl ?_
        refine own_icmp_ne X953 hx hby at_488 (pcY := 495) (pcN := 491) (by decide) rfl (fun (hc956 : ¬ (own_all [y0, y1]) = (0 : Int32)) => False.elim (by exact hc956 (by rw [own_all0 hc952]))) (fun (hc956 : (own_all [y0, y1]) = (0 : Int32)) => ?_)
        refine own_iconst X953 hx hby at_491 rfl (1 : Int32) rfl ?_
        refine own_goto X953 hx hby at_492 (pc' := 496) (by decide) ?_
        have f957 := (own_Rk (own_Re f885 E920) K926 (allS sf_b920 all0))
        have f958 := (Nat.le_trans (Nat.le_trans (Nat.le_trans (Nat.le_trans (Nat.le_trans (Nat.le_trans (Nat.le_trans (Nat.le_trans (Nat.le_trans (Nat.le_trans (Nat.le_trans (Nat.le_trans (Nat.le_trans (Nat.le_trans (Nat.le_trans (Nat.le_trans (Nat.le_trans (Nat.le_trans (Nat.le_trans (Nat.le_trans (Nat.le_trans (Nat.le_trans (Nat.le_refl _) E821.1) (Keep.of_wr W824).1) E826.1) (Keep.of_wr W830).1) (Keep.of_wr W833).1) E835.1) (Keep.of_wr W840).1) (Keep.of_wr W843).1) (Keep.of_wr W846).1) E848.1) (Keep.of_wr W854).1) (Keep.of_wr W857).1) (Keep.of_wr W860).1) (Keep.of_wr W863).1) E865.1) (Keep.of_wr W872).1) (Keep.of_wr W875).1) (Keep.of_wr W878).1) (Keep.of_wr W881).1) (Keep.of_wr W884).1) E920.1) K926.1)
        refine own_retH X953 hx hby hret hlk at_496 (.int (1 : Int32)) rfl (Or.inl ⟨rfl, by simp, _, rfl⟩) hZ hEL (by rw [show T953.heap = _ from e953, show s.heap = _ from eh]; exact f957) hS (by rw [show T953.heap = _ from e953]; exact f958) (by decide) (by decide) ?_
        exact ⟨rfl, (Fr.app (Fr.app (Fr.app N884 N926q) (Fr.nil _)) (Fr.nil _))⟩
      · -- pc 195: f
        refine own_iload X951 hx hby at_198 rfl rfl ?_
        refine own_static X951 hx hby hZ (argsL := [(.int y1)]) (rest := []) hown (hw _ tw_43) (hw _ tw_44) (hw _ tw_45) (hw _ tw_46) (by decide) (rm9 l Z a0 hw y1 T926.heap) e951 (by rw [hml]; rfl) pd_19 rfl (by decide) (W := 0) (Nat.le_refl _) (by decide) (by decide) (by decide) at_200 rfl rfl (fun v959 T959 L959 X959 hQ959 => ?_)
        obtain ⟨rfl, rfl, e959⟩ := hQ959
        show Ends p.tables e below _ (T959.setTop (mkF m 203 #[.val (.int x0), .val (.int x1), .val (.int x2), .val (.int x3), .val (.int x4), .val (.int x5), .val (.int (2 : Int32)), .val (.int y0), .val (.int y1), .val (.int y2), .val (.int y3), .val (.int y4), .val (.ref b821), .val (.ref b826), .val (.ref b835), .val (.ref b848), .val (.ref b865), .val (.ref b920), .unset] [(.int (own_ok y1))]))
        refine own_if_eq X959 hx hby at_203 (pcY := 210) (pcN := 206) (by decide) rfl (fun (hc960 : (own_ok y1) = (0 : Int32)) => ?_) (fun (hc960 : ¬ (own_ok y1) = (0 : Int32)) => ?_)
        · -- pc 203: t
          refine own_iconst X959 hx hby at_210 rfl (0 : Int32) rfl ?_
          refine own_istore X959 hx hby at_211 rfl #[.val (.int x0), .val (.int x1), .val (.int x2), .val (.int x3), .val (.int x4), .val (.int x5), .val (.int (2 : Int32)), .val (.int y0), .val (.int y1), .val (.int y2), .val (.int y3), .val (.int y4), .val (.ref b821), .val (.ref b826), .val (.ref b835), .val (.ref b848), .val (.ref b865), .val (.ref b920), .val (.int (0 : Int32))] rfl ?_
          refine own_goto X959 hx hby at_213 (pc' := 481) (by decide) ?_
          refine own_aload X959 hx hby at_481 rfl rfl rfl ?_
          have f962 := (f927.keep K926 (allS ge_b920 all0))
          have f963 := (A920.keep K926)
          refine own_static X959 hx hby hZ (argsL := [(.ref b920)]) (rest := []) hown (hw _ tw_10) (hw _ tw_11) (hw _ tw_12) (hw _ tw_13) (by decide) (rmv1_2 l Z a0 hw b920 T926.heap G (f962).2 hr0 hr1 f963 B926 D926 V926) e959 (by rw [hml]; rfl) pd_17 rfl (by decide) (W := 0) (Nat.le_refl _) (by decide) (by decide) (by decide) at_483 rfl rfl (fun v961 T961 L961 X961 hQ961 => ?_)
          obtain ⟨rfl, rfl, e961⟩ := hQ961
          show Ends p.tables e below _ (T961.setTop (mkF m 486 #[.val (.int x0), .val (.int x1), .val (.int x2), .val (.int x3), .val (.int x4), .val (.int x5), .val (.int (2 : Int32)), .val (.int y0), .val (.int y1), .val (.int y2), .val (.int y3), .val (.int y4), .val (.ref b821), .val (.ref b826), .val (.ref b835), .val (.ref b848), .val (.ref b865), .val (.ref b920), .val (.int (0 : Int32))] [(.int (own_all [y0, y1]))]))
          refine own_iload X961 hx hby at_486 rfl rfl ?_
          refine own_icmp_ne X961 hx hby at_488 (pcY := 495) (pcN := 491) (by decide) rfl (fun (hc964 : ¬ (own_all [y0, y1]) = (0 : Int32)) => False.elim (by exact hc964 (by rw [own_all1 hc952, own_all0 hc960]))) (fun (hc964 : (own_all [y0, y1]) = (0 : Int32)) => ?_)
          refine own_iconst X961 hx hby at_491 rfl (1 : Int32) rfl ?_
          refine own_goto X961 hx hby at_492 (pc' := 496) (by decide) ?_
          have f965 := (own_Rk (own_Re f885 E920) K926 (allS sf_b920 all0))
          have f966 := (Nat.le_trans (Nat.le_trans (Nat.le_trans (Nat.le_trans (Nat.le_trans (Nat.le_trans (Nat.le_trans (Nat.le_trans (Nat.le_trans (Nat.le_trans (Nat.le_trans (Nat.le_trans (Nat.le_trans (Nat.le_trans (Nat.le_trans (Nat.le_trans (Nat.le_trans (Nat.le_trans (Nat.le_trans (Nat.le_trans (Nat.le_trans (Nat.le_trans (Nat.le_refl _) E821.1) (Keep.of_wr W824).1) E826.1) (Keep.of_wr W830).1) (Keep.of_wr W833).1) E835.1) (Keep.of_wr W840).1) (Keep.of_wr W843).1) (Keep.of_wr W846).1) E848.1) (Keep.of_wr W854).1) (Keep.of_wr W857).1) (Keep.of_wr W860).1) (Keep.of_wr W863).1) E865.1) (Keep.of_wr W872).1) (Keep.of_wr W875).1) (Keep.of_wr W878).1) (Keep.of_wr W881).1) (Keep.of_wr W884).1) E920.1) K926.1)
          refine own_retH X961 hx hby hret hlk at_496 (.int (1 : Int32)) rfl (Or.inl ⟨rfl, by simp, _, rfl⟩) hZ hEL (by rw [show T961.heap = _ from e961, show s.heap = _ from eh]; exact f965) hS (by rw [show T961.heap = _ from e961]; exact f966) (by decide) (by decide) ?_
          exact ⟨rfl, (Fr.app (Fr.app (Fr.app (Fr.app N884 N926q) (Fr.nil _)) (Fr.nil _)) (Fr.nil _))⟩
        · -- pc 203: f
          refine own_iconst X959 hx hby at_206 rfl (1 : Int32) rfl ?_
          refine own_goto X959 hx hby at_207 (pc' := 211) (by decide) ?_
          refine own_istore X959 hx hby at_211 rfl #[.val (.int x0), .val (.int x1), .val (.int x2), .val (.int x3), .val (.int x4), .val (.int x5), .val (.int (2 : Int32)), .val (.int y0), .val (.int y1), .val (.int y2), .val (.int y3), .val (.int y4), .val (.ref b821), .val (.ref b826), .val (.ref b835), .val (.ref b848), .val (.ref b865), .val (.ref b920), .val (.int (1 : Int32))] rfl ?_
          refine own_goto X959 hx hby at_213 (pc' := 481) (by decide) ?_
          refine own_aload X959 hx hby at_481 rfl rfl rfl ?_
          have f968 := (f927.keep K926 (allS ge_b920 all0))
          have f969 := (A920.keep K926)
          refine own_static X959 hx hby hZ (argsL := [(.ref b920)]) (rest := []) hown (hw _ tw_10) (hw _ tw_11) (hw _ tw_12) (hw _ tw_13) (by decide) (rmv1_2 l Z a0 hw b920 T926.heap G (f968).2 hr0 hr1 f969 B926 D926 V926) e959 (by rw [hml]; rfl) pd_17 rfl (by decide) (W := 0) (Nat.le_refl _) (by decide) (by decide) (by decide) at_483 rfl rfl (fun v967 T967 L967 X967 hQ967 => ?_)
          obtain ⟨rfl, rfl, e967⟩ := hQ967
          show Ends p.tables e below _ (T967.setTop (mkF m 486 #[.val (.int x0), .val (.int x1), .val (.int x2), .val (.int x3), .val (.int x4), .val (.int x5), .val (.int (2 : Int32)), .val (.int y0), .val (.int y1), .val (.int y2), .val (.int y3), .val (.int y4), .val (.ref b821), .val (.ref b826), .val (.ref b835), .val (.ref b848), .val (.ref b865), .val (.ref b920), .val (.int (1 : Int32))] [(.int (own_all [y0, y1]))]))
          refine own_iload X967 hx hby at_486 rfl rfl ?_
          refine own_icmp_ne X967 hx hby at_488 (pcY := 495) (pcN := 491) (by decide) rfl (fun (hc970 : ¬ (own_all [y0, y1]) = (1 : Int32)) => False.elim (by exact hc970 (by rw [own_all1 hc952, own_all1 hc960]; rfl))) (fun (hc970 : (own_all [y0, y1]) = (1 : Int32)) => ?_)
          refine own_iconst X967 hx hby at_491 rfl (1 : Int32) rfl ?_
          refine own_goto X967 hx hby at_492 (pc' := 496) (by decide) ?_
          have f971 := (own_Rk (own_Re f885 E920) K926 (allS sf_b920 all0))
          have f972 := (Nat.le_trans (Nat.le_trans (Nat.le_trans (Nat.le_trans (Nat.le_trans (Nat.le_trans (Nat.le_trans (Nat.le_trans (Nat.le_trans (Nat.le_trans (Nat.le_trans (Nat.le_trans (Nat.le_trans (Nat.le_trans (Nat.le_trans (Nat.le_trans (Nat.le_trans (Nat.le_trans (Nat.le_trans (Nat.le_trans (Nat.le_trans (Nat.le_trans (Nat.le_refl _) E821.1) (Keep.of_wr W824).1) E826.1) (Keep.of_wr W830).1) (Keep.of_wr W833).1) E835.1) (Keep.of_wr W840).1) (Keep.of_wr W843).1) (Keep.of_wr W846).1) E848.1) (Keep.of_wr W854).1) (Keep.of_wr W857).1) (Keep.of_wr W860).1) (Keep.of_wr W863).1) E865.1) (Keep.of_wr W872).1) (Keep.of_wr W875).1) (Keep.of_wr W878).1) (Keep.of_wr W881).1) (Keep.of_wr W884).1) E920.1) K926.1)
          refine own_retH X967 hx hby hret hlk at_496 (.int (1 : Int32)) rfl (Or.inl ⟨rfl, by simp, _, rfl⟩) hZ hEL (by rw [show T967.heap = _ from e967, show s.heap = _ from eh]; exact f971) hS (by rw [show T967.heap = _ from e967]; exact f972) (by decide) (by decide) ?_
          exact ⟨rfl, (Fr.app (Fr.app (Fr.app (Fr.app N884 N926q) (Fr.nil _)) (Fr.nil _)) (Fr.nil _))⟩
  · -- 3
    rw [hz]
    show Ends p.tables e below _ (T884.setTop (mkF m 131 #[.val (.int x0), .val (.int x1), .val (.int x2), .val (.int x3), .val (.int x4), .val (.int x5), .val (.int (3 : Int32)), .val (.int y0), .val (.int y1), .val (.int y2), .val (.int y3), .val (.int y4), .val (.ref b821), .val (.ref b826), .val (.ref b835), .val (.ref b848), .val (.ref b865), .unset, .unset] []))
    refine own_iload X884 hx hby at_131 rfl rfl ?_
    refine own_if_ne X884 hx hby at_133 (pcY := 146) (pcN := 136) (by decide) rfl (fun (hc973 : ¬ (3 : Int32) = (0 : Int32)) => ?_) (fun (hc973 : (3 : Int32) = (0 : Int32)) => False.elim (by exact absurd hc973 (by decide)))
    refine own_iload X884 hx hby at_146 rfl rfl ?_
    refine own_iconst X884 hx hby at_148 rfl (1 : Int32) rfl ?_
    refine own_icmp_ne X884 hx hby at_149 (pcY := 173) (pcN := 152) (by decide) rfl (fun (hc974 : ¬ (3 : Int32) = (1 : Int32)) => ?_) (fun (hc974 : (3 : Int32) = (1 : Int32)) => False.elim (by exact absurd hc974 (by decide)))
    refine own_iload X884 hx hby at_173 rfl rfl ?_
    refine own_iconst X884 hx hby at_175 rfl (2 : Int32) rfl ?_
    refine own_icmp_ne X884 hx hby at_176 (pcY := 216) (pcN := 179) (by decide) rfl (fun (hc975 : ¬ (3 : Int32) = (2 : Int32)) => ?_) (fun (hc975 : (3 : Int32) = (2 : Int32)) => False.elim (by exact absurd hc975 (by decide)))
    refine own_iload X884 hx hby at_216 rfl rfl ?_
    refine own_iconst X884 hx hby at_218 rfl (3 : Int32) rfl ?_
    refine own_icmp_ne X884 hx hby at_219 (pcY := 267) (pcN := 222) (by decide) rfl (fun (hc976 : ¬ (3 : Int32) = (3 : Int32)) => False.elim (by exact absurd hc976 (by decide))) (fun (hc976 : (3 : Int32) = (3 : Int32)) => ?_)
    have f978 := ((((((f866.ext E865).wr W872 ge_b865).wr W875 ge_b865).wr W878 ge_b865).wr W881 ge_b865).wr W884 ge_b865)
    refine own_new X884 hx hby hZ hown (hw _ tw_20) (hw _ tw_4) (hw _ tw_3) e884 (by decide) (by decide) at_222 rfl (fun T977 h977 b977 X977 e977 g977 E977 A977 D977 => ?_)
    have ge_b977 : n0 ≤ b977 := own_ge f978 g977
    have ne_b865_b977 : b865 ≠ b977 := own_lt V884.lt g977
    have f979 := ((((((f867.ext E865).other W872 ne_b821_b865).other W875 ne_b821_b865).other W878 ne_b821_b865).other W881 ne_b821_b865).other W884 ne_b821_b865)
    have ne_b821_b977 : b821 ≠ b977 := own_lt f979.lt g977
    have f980 := ((((((f868.ext E865).other W872 ne_b826_b865).other W875 ne_b826_b865).other W878 ne_b826_b865).other W881 ne_b826_b865).other W884 ne_b826_b865)
    have ne_b826_b977 : b826 ≠ b977 := own_lt f980.lt g977
    have f981 := ((((((f869.ext E865).other W872 ne_b835_b865).other W875 ne_b835_b865).other W878 ne_b835_b865).other W881 ne_b835_b865).other W884 ne_b835_b865)
    have ne_b835_b977 : b835 ≠ b977 := own_lt f981.lt g977
    have f982 := ((((((V863.ext E865).other W872 ne_b848_b865).other W875 ne_b848_b865).other W878 ne_b848_b865).other W881 ne_b848_b865).other W884 ne_b848_b865)
    have ne_b848_b977 : b848 ≠ b977 := own_lt f982.lt g977
    have F977_value : Fld Z h977 b977 "java/lang/String" "value" "[B" .null := D977 (Or.inr (hw _ tw_6)) (ty := (.array .byte)) (by decide)
    have F977_coder : Fld Z h977 b977 "java/lang/String" "coder" "B" (.int (0 : Int32)) := D977 (Or.inr (hw _ tw_7)) (ty := .byte) (by decide)
    have sf_b977 := Safe.ext E977 f885.1 (Safe.new (EL := consts_1) (Nat.le_of_eq g977.symm))
    refine own_dup X977 hx hby at_225 rfl rfl ?_
    refine own_aload X977 hx hby at_226 rfl rfl rfl ?_
    have f984 := (f978.ext E977)
    have f985 := (f981.ext E977)
    refine own_special X977 hx hby hZ (a := b977) (argsL := [(.ref b835)]) (rest := [(.ref b977)]) hown rfl (hw _ tw_21) (hw _ tw_22) (hw _ tw_3) (hw _ tw_23) (by decide) (rmi1_3 l Z a0 hw b977 b835 h977 n0 G ge_b977 A977 F977_coder F977_value f984 hr0 hr1 hr2 f985) e977 (by rw [hml]; rfl) pd_18 rfl (by decide) (W := 1) (Nat.le_refl _) (by decide) (by decide) (by decide) at_228 rfl rfl (fun v983 T983 L983 X983 hQ983 => ?_)
    rcases hQ983 with ⟨b983, k983, rfl, N983q, K983, D983, (⟨al983, B983, V983⟩ | ⟨B983, V983⟩)⟩
    · -- latin
      show Ends p.tables e below _ (T983.setTop (mkF m 231 #[.val (.int x0), .val (.int x1), .val (.int x2), .val (.int x3), .val (.int x4), .val (.int x5), .val (.int (3 : Int32)), .val (.int y0), .val (.int y1), .val (.int y2), .val (.int y3), .val (.int y4), .val (.ref b821), .val (.ref b826), .val (.ref b835), .val (.ref b848), .val (.ref b865), .unset, .unset] [(.ref b977)]))
      refine own_astore X983 hx hby at_231 rfl #[.val (.int x0), .val (.int x1), .val (.int x2), .val (.int x3), .val (.int x4), .val (.int x5), .val (.int (3 : Int32)), .val (.int y0), .val (.int y1), .val (.int y2), .val (.int y3), .val (.int y4), .val (.ref b821), .val (.ref b826), .val (.ref b835), .val (.ref b848), .val (.ref b865), .val (.ref b977), .unset] rfl rfl ?_
      refine own_iload X983 hx hby at_233 rfl rfl ?_
      refine own_static X983 hx hby hZ (argsL := [(.int y0)]) (rest := []) hown (hw _ tw_43) (hw _ tw_44) (hw _ tw_45) (hw _ tw_46) (by decide) (rm9 l Z a0 hw y0 T983.heap) rfl (by rw [hml]; rfl) pd_19 rfl (by decide) (W := 0) (Nat.le_refl _) (by decide) (by decide) (by decide) at_235 rfl rfl (fun v986 T986 L986 X986 hQ986 => ?_)
      obtain ⟨rfl, rfl, e986⟩ := hQ986
      show Ends p.tables e below _ (T986.setTop (mkF m 238 #[.val (.int x0), .val (.int x1), .val (.int x2), .val (.int x3), .val (.int x4), .val (.int x5), .val (.int (3 : Int32)), .val (.int y0), .val (.int y1), .val (.int y2), .val (.int y3), .val (.int y4), .val (.ref b821), .val (.ref b826), .val (.ref b835), .val (.ref b848), .val (.ref b865), .val (.ref b977), .unset] [(.int (own_ok y0))]))
      refine own_if_eq X986 hx hby at_238 (pcY := 261) (pcN := 241) (by decide) rfl (fun (hc987 : (own_ok y0) = (0 : Int32)) => ?_) (fun (hc987 : ¬ (own_ok y0) = (0 : Int32)) => ?_)
      · -- pc 238: t
        refine own_iconst X986 hx hby at_261 rfl (0 : Int32) rfl ?_
        refine own_istore X986 hx hby at_262 rfl #[.val (.int x0), .val (.int x1), .val (.int x2), .val (.int x3), .val (.int x4), .val (.int x5), .val (.int (3 : Int32)), .val (.int y0), .val (.int y1), .val (.int y2), .val (.int y3), .val (.int y4), .val (.ref b821), .val (.ref b826), .val (.ref b835), .val (.ref b848), .val (.ref b865), .val (.ref b977), .val (.int (0 : Int32))] rfl ?_
        refine own_goto X986 hx hby at_264 (pc' := 481) (by decide) ?_
        refine own_aload X986 hx hby at_481 rfl rfl rfl ?_
        have f989 := (f984.keep K983 (allS ge_b977 all0))
        have f990 := (A977.keep K983)
        refine own_static X986 hx hby hZ (argsL := [(.ref b977)]) (rest := []) hown (hw _ tw_10) (hw _ tw_11) (hw _ tw_12) (hw _ tw_13) (by decide) (rmv0_3 l Z a0 hw b977 T983.heap G (f989).2 ⟨hr0.1, by have q := al983; omega⟩ ⟨hr1.1, by have q := al983; omega⟩ ⟨hr2.1, by have q := al983; omega⟩ f990 B983 D983 V983) e986 (by rw [hml]; rfl) pd_17 rfl (by decide) (W := 0) (Nat.le_refl _) (by decide) (by decide) (by decide) at_483 rfl rfl (fun v988 T988 L988 X988 hQ988 => ?_)
        obtain ⟨rfl, rfl, e988⟩ := hQ988
        show Ends p.tables e below _ (T988.setTop (mkF m 486 #[.val (.int x0), .val (.int x1), .val (.int x2), .val (.int x3), .val (.int x4), .val (.int x5), .val (.int (3 : Int32)), .val (.int y0), .val (.int y1), .val (.int y2), .val (.int y3), .val (.int y4), .val (.ref b821), .val (.ref b826), .val (.ref b835), .val (.ref b848), .val (.ref b865), .val (.ref b977), .val (.int (0 : Int32))] [(.int (own_all [y0, y1, y2]))]))
        refine own_iload X988 hx hby at_486 rfl rfl ?_
        refine own_icmp_ne X988 hx hby at_488 (pcY := 495) (pcN := 491) (by decide) rfl (fun (hc991 : ¬ (own_all [y0, y1, y2]) = (0 : Int32)) => False.elim (by exact hc991 (by rw [own_all0 hc987]))) (fun (hc991 : (own_all [y0, y1, y2]) = (0 : Int32)) => ?_)
        refine own_iconst X988 hx hby at_491 rfl (1 : Int32) rfl ?_
        refine own_goto X988 hx hby at_492 (pc' := 496) (by decide) ?_
        have f992 := (own_Rk (own_Re f885 E977) K983 (allS sf_b977 all0))
        have f993 := (Nat.le_trans (Nat.le_trans (Nat.le_trans (Nat.le_trans (Nat.le_trans (Nat.le_trans (Nat.le_trans (Nat.le_trans (Nat.le_trans (Nat.le_trans (Nat.le_trans (Nat.le_trans (Nat.le_trans (Nat.le_trans (Nat.le_trans (Nat.le_trans (Nat.le_trans (Nat.le_trans (Nat.le_trans (Nat.le_trans (Nat.le_trans (Nat.le_trans (Nat.le_refl _) E821.1) (Keep.of_wr W824).1) E826.1) (Keep.of_wr W830).1) (Keep.of_wr W833).1) E835.1) (Keep.of_wr W840).1) (Keep.of_wr W843).1) (Keep.of_wr W846).1) E848.1) (Keep.of_wr W854).1) (Keep.of_wr W857).1) (Keep.of_wr W860).1) (Keep.of_wr W863).1) E865.1) (Keep.of_wr W872).1) (Keep.of_wr W875).1) (Keep.of_wr W878).1) (Keep.of_wr W881).1) (Keep.of_wr W884).1) E977.1) K983.1)
        refine own_retH X988 hx hby hret hlk at_496 (.int (1 : Int32)) rfl (Or.inl ⟨rfl, by simp, _, rfl⟩) hZ hEL (by rw [show T988.heap = _ from e988, show s.heap = _ from eh]; exact f992) hS (by rw [show T988.heap = _ from e988]; exact f993) (by decide) (by decide) ?_
        exact ⟨rfl, (Fr.app (Fr.app (Fr.app N884 N983q) (Fr.nil _)) (Fr.nil _))⟩
      · -- pc 238: f
        refine own_iload X986 hx hby at_241 rfl rfl ?_
        refine own_static X986 hx hby hZ (argsL := [(.int y1)]) (rest := []) hown (hw _ tw_43) (hw _ tw_44) (hw _ tw_45) (hw _ tw_46) (by decide) (rm9 l Z a0 hw y1 T983.heap) e986 (by rw [hml]; rfl) pd_19 rfl (by decide) (W := 0) (Nat.le_refl _) (by decide) (by decide) (by decide) at_243 rfl rfl (fun v994 T994 L994 X994 hQ994 => ?_)
        obtain ⟨rfl, rfl, e994⟩ := hQ994
        show Ends p.tables e below _ (T994.setTop (mkF m 246 #[.val (.int x0), .val (.int x1), .val (.int x2), .val (.int x3), .val (.int x4), .val (.int x5), .val (.int (3 : Int32)), .val (.int y0), .val (.int y1), .val (.int y2), .val (.int y3), .val (.int y4), .val (.ref b821), .val (.ref b826), .val (.ref b835), .val (.ref b848), .val (.ref b865), .val (.ref b977), .unset] [(.int (own_ok y1))]))
        refine own_if_eq X994 hx hby at_246 (pcY := 261) (pcN := 249) (by decide) rfl (fun (hc995 : (own_ok y1) = (0 : Int32)) => ?_) (fun (hc995 : ¬ (own_ok y1) = (0 : Int32)) => ?_)
        · -- pc 246: t
          refine own_iconst X994 hx hby at_261 rfl (0 : Int32) rfl ?_
          refine own_istore X994 hx hby at_262 rfl #[.val (.int x0), .val (.int x1), .val (.int x2), .val (.int x3), .val (.int x4), .val (.int x5), .val (.int (3 : Int32)), .val (.int y0), .val (.int y1), .val (.int y2), .val (.int y3), .val (.int y4), .val (.ref b821), .val (.ref b826), .val (.ref b835), .val (.ref b848), .val (.ref b865), .val (.ref b977), .val (.int (0 : Int32))] rfl ?_
          refine own_goto X994 hx hby at_264 (pc' := 481) (by decide) ?_
          refine own_aload X994 hx hby at_481 rfl rfl rfl ?_
          have f997 := (f984.keep K983 (allS ge_b977 all0))
          have f998 := (A977.keep K983)
          refine own_static X994 hx hby hZ (argsL := [(.ref b977)]) (rest := []) hown (hw _ tw_10) (hw _ tw_11) (hw _ tw_12) (hw _ tw_13) (by decide) (rmv0_3 l Z a0 hw b977 T983.heap G (f997).2 ⟨hr0.1, by have q := al983; omega⟩ ⟨hr1.1, by have q := al983; omega⟩ ⟨hr2.1, by have q := al983; omega⟩ f998 B983 D983 V983) e994 (by rw [hml]; rfl) pd_17 rfl (by decide) (W := 0) (Nat.le_refl _) (by decide) (by decide) (by decide) at_483 rfl rfl (fun v996 T996 L996 X996 hQ996 => ?_)
          obtain ⟨rfl, rfl, e996⟩ := hQ996
          show Ends p.tables e below _ (T996.setTop (mkF m 486 #[.val (.int x0), .val (.int x1), .val (.int x2), .val (.int x3), .val (.int x4), .val (.int x5), .val (.int (3 : Int32)), .val (.int y0), .val (.int y1), .val (.int y2), .val (.int y3), .val (.int y4), .val (.ref b821), .val (.ref b826), .val (.ref b835), .val (.ref b848), .val (.ref b865), .val (.ref b977), .val (.int (0 : Int32))] [(.int (own_all [y0, y1, y2]))]))
          refine own_iload X996 hx hby at_486 rfl rfl ?_
          refine own_icmp_ne X996 hx hby at_488 (pcY := 495) (pcN := 491) (by decide) rfl (fun (hc999 : ¬ (own_all [y0, y1, y2]) = (0 : Int32)) => False.elim (by exact hc999 (by rw [own_all1 hc987, own_all0 hc995]))) (fun (hc999 : (own_all [y0, y1, y2]) = (0 : Int32)) => ?_)
          refine own_iconst X996 hx hby at_491 rfl (1 : Int32) rfl ?_
          refine own_goto X996 hx hby at_492 (pc' := 496) (by decide) ?_
          have f1000 := (own_Rk (own_Re f885 E977) K983 (allS sf_b977 all0))
          have f1001 := (Nat.le_trans (Nat.le_trans (Nat.le_trans (Nat.le_trans (Nat.le_trans (Nat.le_trans (Nat.le_trans (Nat.le_trans (Nat.le_trans (Nat.le_trans (Nat.le_trans (Nat.le_trans (Nat.le_trans (Nat.le_trans (Nat.le_trans (Nat.le_trans (Nat.le_trans (Nat.le_trans (Nat.le_trans (Nat.le_trans (Nat.le_trans (Nat.le_trans (Nat.le_refl _) E821.1) (Keep.of_wr W824).1) E826.1) (Keep.of_wr W830).1) (Keep.of_wr W833).1) E835.1) (Keep.of_wr W840).1) (Keep.of_wr W843).1) (Keep.of_wr W846).1) E848.1) (Keep.of_wr W854).1) (Keep.of_wr W857).1) (Keep.of_wr W860).1) (Keep.of_wr W863).1) E865.1) (Keep.of_wr W872).1) (Keep.of_wr W875).1) (Keep.of_wr W878).1) (Keep.of_wr W881).1) (Keep.of_wr W884).1) E977.1) K983.1)
          refine own_retH X996 hx hby hret hlk at_496 (.int (1 : Int32)) rfl (Or.inl ⟨rfl, by simp, _, rfl⟩) hZ hEL (by rw [show T996.heap = _ from e996, show s.heap = _ from eh]; exact f1000) hS (by rw [show T996.heap = _ from e996]; exact f1001) (by decide) (by decide) ?_
          exact ⟨rfl, (Fr.app (Fr.app (Fr.app (Fr.app N884 N983q) (Fr.nil _)) (Fr.nil _)) (Fr.nil _))⟩
        · -- pc 246: f
          refine own_iload X994 hx hby at_249 rfl rfl ?_
          refine own_static X994 hx hby hZ (argsL := [(.int y2)]) (rest := []) hown (hw _ tw_43) (hw _ tw_44) (hw _ tw_45) (hw _ tw_46) (by decide) (rm9 l Z a0 hw y2 T983.heap) e994 (by rw [hml]; rfl) pd_19 rfl (by decide) (W := 0) (Nat.le_refl _) (by decide) (by decide) (by decide) at_251 rfl rfl (fun v1002 T1002 L1002 X1002 hQ1002 => ?_)
          obtain ⟨rfl, rfl, e1002⟩ := hQ1002
          show Ends p.tables e below _ (T1002.setTop (mkF m 254 #[.val (.int x0), .val (.int x1), .val (.int x2), .val (.int x3), .val (.int x4), .val (.int x5), .val (.int (3 : Int32)), .val (.int y0), .val (.int y1), .val (.int y2), .val (.int y3), .val (.int y4), .val (.ref b821), .val (.ref b826), .val (.ref b835), .val (.ref b848), .val (.ref b865), .val (.ref b977), .unset] [(.int (own_ok y2))]))
          refine own_if_eq X1002 hx hby at_254 (pcY := 261) (pcN := 257) (by decide) rfl (fun (hc1003 : (own_ok y2) = (0 : Int32)) => ?_) (fun (hc1003 : ¬ (own_ok y2) = (0 : Int32)) => ?_)
          · -- pc 254: t
            refine own_iconst X1002 hx hby at_261 rfl (0 : Int32) rfl ?_
            refine own_istore X1002 hx hby at_262 rfl #[.val (.int x0), .val (.int x1), .val (.int x2), .val (.int x3), .val (.int x4), .val (.int x5), .val (.int (3 : Int32)), .val (.int y0), .val (.int y1), .val (.int y2), .val (.int y3), .val (.int y4), .val (.ref b821), .val (.ref b826), .val (.ref b835), .val (.ref b848), .val (.ref b865), .val (.ref b977), .val (.int (0 : Int32))] rfl ?_
            refine own_goto X1002 hx hby at_264 (pc' := 481) (by decide) ?_
            refine own_aload X1002 hx hby at_481 rfl rfl rfl ?_
            have f1005 := (f984.keep K983 (allS ge_b977 all0))
            have f1006 := (A977.keep K983)
            refine own_static X1002 hx hby hZ (argsL := [(.ref b977)]) (rest := []) hown (hw _ tw_10) (hw _ tw_11) (hw _ tw_12) (hw _ tw_13) (by decide) (rmv0_3 l Z a0 hw b977 T983.heap G (f1005).2 ⟨hr0.1, by have q := al983; omega⟩ ⟨hr1.1, by have q := al983; omega⟩ ⟨hr2.1, by have q := al983; omega⟩ f1006 B983 D983 V983) e1002 (by rw [hml]; rfl) pd_17 rfl (by decide) (W := 0) (Nat.le_refl _) (by decide) (by decide) (by decide) at_483 rfl rfl (fun v1004 T1004 L1004 X1004 hQ1004 => ?_)
            obtain ⟨rfl, rfl, e1004⟩ := hQ1004
            show Ends p.tables e below _ (T1004.setTop (mkF m 486 #[.val (.int x0), .val (.int x1), .val (.int x2), .val (.int x3), .val (.int x4), .val (.int x5), .val (.int (3 : Int32)), .val (.int y0), .val (.int y1), .val (.int y2), .val (.int y3), .val (.int y4), .val (.ref b821), .val (.ref b826), .val (.ref b835), .val (.ref b848), .val (.ref b865), .val (.ref b977), .val (.int (0 : Int32))] [(.int (own_all [y0, y1, y2]))]))
            refine own_iload X1004 hx hby at_486 rfl rfl ?_
            refine own_icmp_ne X1004 hx hby at_488 (pcY := 495) (pcN := 491) (by decide) rfl (fun (hc1007 : ¬ (own_all [y0, y1, y2]) = (0 : Int32)) => False.elim (by exact hc1007 (by rw [own_all1 hc987, own_all1 hc995, own_all0 hc1003]))) (fun (hc1007 : (own_all [y0, y1, y2]) = (0 : Int32)) => ?_)
            refine own_iconst X1004 hx hby at_491 rfl (1 : Int32) rfl ?_
            refine own_goto X1004 hx hby at_492 (pc' := 496) (by decide) ?_
            have f1008 := (own_Rk (own_Re f885 E977) K983 (allS sf_b977 all0))
            have f1009 := (Nat.le_trans (Nat.le_trans (Nat.le_trans (Nat.le_trans (Nat.le_trans (Nat.le_trans (Nat.le_trans (Nat.le_trans (Nat.le_trans (Nat.le_trans (Nat.le_trans (Nat.le_trans (Nat.le_trans (Nat.le_trans (Nat.le_trans (Nat.le_trans (Nat.le_trans (Nat.le_trans (Nat.le_trans (Nat.le_trans (Nat.le_trans (Nat.le_trans (Nat.le_refl _) E821.1) (Keep.of_wr W824).1) E826.1) (Keep.of_wr W830).1) (Keep.of_wr W833).1) E835.1) (Keep.of_wr W840).1) (Keep.of_wr W843).1) (Keep.of_wr W846).1) E848.1) (Keep.of_wr W854).1) (Keep.of_wr W857).1) (Keep.of_wr W860).1) (Keep.of_wr W863).1) E865.1) (Keep.of_wr W872).1) (Keep.of_wr W875).1) (Keep.of_wr W878).1) (Keep.of_wr W881).1) (Keep.of_wr W884).1) E977.1) K983.1)
            refine own_retH X1004 hx hby hret hlk at_496 (.int (1 : Int32)) rfl (Or.inl ⟨rfl, by simp, _, rfl⟩) hZ hEL (by rw [show T1004.heap = _ from e1004, show s.heap = _ from eh]; exact f1008) hS (by rw [show T1004.heap = _ from e1004]; exact f1009) (by decide) (by decide) ?_
            exact ⟨rfl, (Fr.app (Fr.app (Fr.app (Fr.app (Fr.app N884 N983q) (Fr.nil _)) (Fr.nil _)) (Fr.nil _)) (Fr.nil _))⟩
          · -- pc 254: f
            refine own_iconst X1002 hx hby at_257 rfl (1 : Int32) rfl ?_
            refine own_goto X1002 hx hby at_258 (pc' := 262) (by decide) ?_
            refine own_istore X1002 hx hby at_262 rfl #[.val (.int x0), .val (.int x1), .val (.int x2), .val (.int x3), .val (.int x4), .val (.int x5), .val (.int (3 : Int32)), .val (.int y0), .val (.int y1), .val (.int y2), .val (.int y3), .val (.int y4), .val (.ref b821), .val (.ref b826), .val (.ref b835), .val (.ref b848), .val (.ref b865), .val (.ref b977), .val (.int (1 : Int32))] rfl ?_
            refine own_goto X1002 hx hby at_264 (pc' := 481) (by decide) ?_
            refine own_aload X1002 hx hby at_481 rfl rfl rfl ?_
            have f1011 := (f984.keep K983 (allS ge_b977 all0))
            have f1012 := (A977.keep K983)
            refine own_static X1002 hx hby hZ (argsL := [(.ref b977)]) (rest := []) hown (hw _ tw_10) (hw _ tw_11) (hw _ tw_12) (hw _ tw_13) (by decide) (rmv0_3 l Z a0 hw b977 T983.heap G (f1011).2 ⟨hr0.1, by have q := al983; omega⟩ ⟨hr1.1, by have q := al983; omega⟩ ⟨hr2.1, by have q := al983; omega⟩ f1012 B983 D983 V983) e1002 (by rw [hml]; rfl) pd_17 rfl (by decide) (W := 0) (Nat.le_refl _) (by decide) (by decide) (by decide) at_483 rfl rfl (fun v1010 T1010 L1010 X1010 hQ1010 => ?_)
            obtain ⟨rfl, rfl, e1010⟩ := hQ1010
            show Ends p.tables e below _ (T1010.setTop (mkF m 486 #[.val (.int x0), .val (.int x1), .val (.int x2), .val (.int x3), .val (.int x4), .val (.int x5), .val (.int (3 : Int32)), .val (.int y0), .val (.int y1), .val (.int y2), .val (.int y3), .val (.int y4), .val (.ref b821), .val (.ref b826), .val (.ref b835), .val (.ref b848), .val (.ref b865), .val (.ref b977), .val (.int (1 : Int32))] [(.int (own_all [y0, y1, y2]))]))
            refine own_iload X1010 hx hby at_486 rfl rfl ?_
            refine own_icmp_ne X1010 hx hby at_488 (pcY := 495) (pcN := 491) (by decide) rfl (fun (hc1013 : ¬ (own_all [y0, y1, y2]) = (1 : Int32)) => False.elim (by exact hc1013 (by rw [own_all1 hc987, own_all1 hc995, own_all1 hc1003]; rfl))) (fun (hc1013 : (own_all [y0, y1, y2]) = (1 : Int32)) => ?_)
            refine own_iconst X1010 hx hby at_491 rfl (1 : Int32) rfl ?_
            refine own_goto X1010 hx hby at_492 (pc' := 496) (by decide) ?_
            have f1014 := (own_Rk (own_Re f885 E977) K983 (allS sf_b977 all0))
            have f1015 := (Nat.le_trans (Nat.le_trans (Nat.le_trans (Nat.le_trans (Nat.le_trans (Nat.le_trans (Nat.le_trans (Nat.le_trans (Nat.le_trans (Nat.le_trans (Nat.le_trans (Nat.le_trans (Nat.le_trans (Nat.le_trans (Nat.le_trans (Nat.le_trans (Nat.le_trans (Nat.le_trans (Nat.le_trans (Nat.le_trans (Nat.le_trans (Nat.le_trans (Nat.le_refl _) E821.1) (Keep.of_wr W824).1) E826.1) (Keep.of_wr W830).1) (Keep.of_wr W833).1) E835.1) (Keep.of_wr W840).1) (Keep.of_wr W843).1) (Keep.of_wr W846).1) E848.1) (Keep.of_wr W854).1) (Keep.of_wr W857).1) (Keep.of_wr W860).1) (Keep.of_wr W863).1) E865.1) (Keep.of_wr W872).1) (Keep.of_wr W875).1) (Keep.of_wr W878).1) (Keep.of_wr W881).1) (Keep.of_wr W884).1) E977.1) K983.1)
            refine own_retH X1010 hx hby hret hlk at_496 (.int (1 : Int32)) rfl (Or.inl ⟨rfl, by simp, _, rfl⟩) hZ hEL (by rw [show T1010.heap = _ from e1010, show s.heap = _ from eh]; exact f1014) hS (by rw [show T1010.heap = _ from e1010]; exact f1015) (by decide) (by decide) ?_
            exact ⟨rfl, (Fr.app (Fr.app (Fr.app (Fr.app (Fr.app N884 N983q) (Fr.nil _)) (Fr.nil _)) (Fr.nil _)) (Fr.nil _))⟩
    · -- wide
      show Ends p.tables e below _ (T983.setTop (mkF m 231 #[.val (.int x0), .val (.int x1), .val (.int x2), .val (.int x3), .val (.int x4), .val (.int x5), .val (.int (3 : Int32)), .val (.int y0), .val (.int y1), .val (.int y2), .val (.int y3), .val (.int y4), .val (.ref b821), .val (.ref b826), .val (.ref b835), .val (.ref b848), .val (.ref b865), .unset, .unset] [(.ref b977)]))
      refine own_astore X983 hx hby at_231 rfl #[.val (.int x0), .val (.int x1), .val (.int x2), .val (.int x3), .val (.int x4), .val (.int x5), .val (.int (3 : Int32)), .val (.int y0), .val (.int y1), .val (.int y2), .val (.int y3), .val (.int y4), .val (.ref b821), .val (.ref b826), .val (.ref b835), .val (.ref b848), .val (.ref b865), .val (.ref b977), .unset] rfl rfl ?_
      refine own_iload X983 hx hby at_233 rfl rfl ?_
      refine own_static X983 hx hby hZ (argsL := [(.int y0)]) (rest := []) hown (hw _ tw_43) (hw _ tw_44) (hw _ tw_45) (hw _ tw_46) (by decide) (rm9 l Z a0 hw y0 T983.heap) rfl (by rw [hml]; rfl) pd_19 rfl (by decide) (W := 0) (Nat.le_refl _) (by decide) (by decide) (by decide) at_235 rfl rfl (fun v1016 T1016 L1016 X1016 hQ1016 => ?_)
      obtain ⟨rfl, rfl, e1016⟩ := hQ1016
      show Ends p.tables e below _ (T1016.setTop (mkF m 238 #[.val (.int x0), .val (.int x1), .val (.int x2), .val (.int x3), .val (.int x4), .val (.int x5), .val (.int (3 : Int32)), .val (.int y0), .val (.int y1), .val (.int y2), .val (.int y3), .val (.int y4), .val (.ref b821), .val (.ref b826), .val (.ref b835), .val (.ref b848), .val (.ref b865), .val (.ref b977), .unset] [(.int (own_ok y0))]))
      refine own_if_eq X1016 hx hby at_238 (pcY := 261) (pcN := 241) (by decide) rfl (fun (hc1017 : (own_ok y0) = (0 : Int32)) => ?_) (fun (hc1017 : ¬ (own_ok y0) = (0 : Int32)) => ?_)
      · -- pc 238: t
        refine own_iconst X1016 hx hby at_261 rfl (0 : Int32) rfl ?_
        refine own_istore X1016 hx hby at_262 rfl #[.val (.int x0), .val (.int x1), .val (.int x2), .val (.int x3), .val (.int x4), .val (.int x5), .val (.int (3 : Int32)), .val (.int y0), .val (.int y1), .val (.int y2), .val (.int y3), .val (.int y4), .val (.ref b821), .val (.ref b826), .val (.ref b835), .val (.ref b848), .val (.ref b865), .val (.ref b977), .val (.int (0 : Int32))] rfl ?_
        refine own_goto X1016 hx hby at_264 (pc' := 481) (by decide) ?_
        refine own_aload X1016 hx hby at_481 rfl rfl rfl ?_
        have f1019 := (f984.keep K983 (allS ge_b977 all0))
        have f1020 := (A977.keep K983)
        refine own_static X1016 hx hby hZ (argsL := [(.ref b977)]) (rest := []) hown (hw _ tw_10) (hw _ tw_11) (hw _ tw_12) (hw _ tw_13) (by decide) (rmv1_3 l Z a0 hw b977 T983.heap G (f1019).2 hr0 hr1 hr2 f1020 B983 D983 V983) e1016 (by rw [hml]; rfl) pd_17 rfl (by decide) (W := 0) (Nat.le_refl _) (by decide) (by decide) (by decide) at_483 rfl rfl (fun v1018 T1018 L1018 X1018 hQ1018 => ?_)
        obtain ⟨rfl, rfl, e1018⟩ := hQ1018
        show Ends p.tables e below _ (T1018.setTop (mkF m 486 #[.val (.int x0), .val (.int x1), .val (.int x2), .val (.int x3), .val (.int x4), .val (.int x5), .val (.int (3 : Int32)), .val (.int y0), .val (.int y1), .val (.int y2), .val (.int y3), .val (.int y4), .val (.ref b821), .val (.ref b826), .val (.ref b835), .val (.ref b848), .val (.ref b865), .val (.ref b977), .val (.int (0 : Int32))] [(.int (own_all [y0, y1, y2]))]))
        refine own_iload X1018 hx hby at_486 rfl rfl ?_
        refine own_icmp_ne X1018 hx hby at_488 (pcY := 495) (pcN := 491) (by decide) rfl (fun (hc1021 : ¬ (own_all [y0, y1, y2]) = (0 : Int32)) => False.elim (by exact hc1021 (by rw [own_all0 hc1017]))) (fun (hc1021 : (own_all [y0, y1, y2]) = (0 : Int32)) => ?_)
        refine own_iconst X1018 hx hby at_491 rfl (1 : Int32) rfl ?_
        refine own_goto X1018 hx hby at_492 (pc' := 496) (by decide) ?_
        have f1022 := (own_Rk (own_Re f885 E977) K983 (allS sf_b977 all0))
        have f1023 := (Nat.le_trans (Nat.le_trans (Nat.le_trans (Nat.le_trans (Nat.le_trans (Nat.le_trans (Nat.le_trans (Nat.le_trans (Nat.le_trans (Nat.le_trans (Nat.le_trans (Nat.le_trans (Nat.le_trans (Nat.le_trans (Nat.le_trans (Nat.le_trans (Nat.le_trans (Nat.le_trans (Nat.le_trans (Nat.le_trans (Nat.le_trans (Nat.le_trans (Nat.le_refl _) E821.1) (Keep.of_wr W824).1) E826.1) (Keep.of_wr W830).1) (Keep.of_wr W833).1) E835.1) (Keep.of_wr W840).1) (Keep.of_wr W843).1) (Keep.of_wr W846).1) E848.1) (Keep.of_wr W854).1) (Keep.of_wr W857).1) (Keep.of_wr W860).1) (Keep.of_wr W863).1) E865.1) (Keep.of_wr W872).1) (Keep.of_wr W875).1) (Keep.of_wr W878).1) (Keep.of_wr W881).1) (Keep.of_wr W884).1) E977.1) K983.1)
        refine own_retH X1018 hx hby hret hlk at_496 (.int (1 : Int32)) rfl (Or.inl ⟨rfl, by simp, _, rfl⟩) hZ hEL (by rw [show T1018.heap = _ from e1018, show s.heap = _ from eh]; exact f1022) hS (by rw [show T1018.heap = _ from e1018]; exact f1023) (by decide) (by decide) ?_
        exact ⟨rfl, (Fr.app (Fr.app (Fr.app N884 N983q) (Fr.nil _)) (Fr.nil _))⟩
      · -- pc 238: f
        refine own_iload X1016 hx hby at_241 rfl rfl ?_
        refine own_static X1016 hx hby hZ (argsL := [(.int y1)]) (rest := []) hown (hw _ tw_43) (hw _ tw_44) (hw _ tw_45) (hw _ tw_46) (by decide) (rm9 l Z a0 hw y1 T983.heap) e1016 (by rw [hml]; rfl) pd_19 rfl (by decide) (W := 0) (Nat.le_refl _) (by decide) (by decide) (by decide) at_243 rfl rfl (fun v1024 T1024 L1024 X1024 hQ1024 => ?_)
        obtain ⟨rfl, rfl, e1024⟩ := hQ1024
        show Ends p.tables e below _ (T1024.setTop (mkF m 246 #[.val (.int x0), .val (.int x1), .val (.int x2), .val (.int x3), .val (.int x4), .val (.int x5), .val (.int (3 : Int32)), .val (.int y0), .val (.int y1), .val (.int y2), .val (.int y3), .val (.int y4), .val (.ref b821), .val (.ref b826), .val (.ref b835), .val (.ref b848), .val (.ref b865), .val (.ref b977), .unset] [(.int (own_ok y1))]))
        refine own_if_eq X1024 hx hby at_246 (pcY := 261) (pcN := 249) (by decide) rfl (fun (hc1025 : (own_ok y1) = (0 : Int32)) => ?_) (fun (hc1025 : ¬ (own_ok y1) = (0 : Int32)) => ?_)
        · -- pc 246: t
          refine own_iconst X1024 hx hby at_261 rfl (0 : Int32) rfl ?_
          refine own_istore X1024 hx hby at_262 rfl #[.val (.int x0), .val (.int x1), .val (.int x2), .val (.int x3), .val (.int x4), .val (.int x5), .val (.int (3 : Int32)), .val (.int y0), .val (.int y1), .val (.int y2), .val (.int y3), .val (.int y4), .val (.ref b821), .val (.ref b826), .val (.ref b835), .val (.ref b848), .val (.ref b865), .val (.ref b977), .val (.int (0 : Int32))] rfl ?_
          refine own_goto X1024 hx hby at_264 (pc' := 481) (by decide) ?_
          refine own_aload X1024 hx hby at_481 rfl rfl rfl ?_
          have f1027 := (f984.keep K983 (allS ge_b977 all0))
          have f1028 := (A977.keep K983)
          refine own_static X1024 hx hby hZ (argsL := [(.ref b977)]) (rest := []) hown (hw _ tw_10) (hw _ tw_11) (hw _ tw_12) (hw _ tw_13) (by decide) (rmv1_3 l Z a0 hw b977 T983.heap G (f1027).2 hr0 hr1 hr2 f1028 B983 D983 V983) e1024 (by rw [hml]; rfl) pd_17 rfl (by decide) (W := 0) (Nat.le_refl _) (by decide) (by decide) (by decide) at_483 rfl rfl (fun v1026 T1026 L1026 X1026 hQ1026 => ?_)
          obtain ⟨rfl, rfl, e1026⟩ := hQ1026
          show Ends p.tables e below _ (T1026.setTop (mkF m 486 #[.val (.int x0), .val (.int x1), .val (.int x2), .val (.int x3), .val (.int x4), .val (.int x5), .val (.int (3 : Int32)), .val (.int y0), .val (.int y1), .val (.int y2), .val (.int y3), .val (.int y4), .val (.ref b821), .val (.ref b826), .val (.ref b835), .val (.ref b848), .val (.ref b865), .val (.ref b977), .val (.int (0 : Int32))] [(.int (own_all [y0, y1, y2]))]))
          refine own_iload X1026 hx hby at_486 rfl rfl ?_
          refine own_icmp_ne X1026 hx hby at_488 (pcY := 495) (pcN := 491) (by decide) rfl (fun (hc1029 : ¬ (own_all [y0, y1, y2]) = (0 : Int32)) => False.elim (by exact hc1029 (by rw [own_all1 hc1017, own_all0 hc1025]))) (fun (hc1029 : (own_all [y0, y1, y2]) = (0 : Int32)) => ?_)
          refine own_iconst X1026 hx hby at_491 rfl (1 : Int32) rfl ?_
          refine own_goto X1026 hx hby at_492 (pc' := 496) (by decide) ?_
          have f1030 := (own_Rk (own_Re f885 E977) K983 (allS sf_b977 all0))
          have f1031 := (Nat.le_trans (Nat.le_trans (Nat.le_trans (Nat.le_trans (Nat.le_trans (Nat.le_trans (Nat.le_trans (Nat.le_trans (Nat.le_trans (Nat.le_trans (Nat.le_trans (Nat.le_trans (Nat.le_trans (Nat.le_trans (Nat.le_trans (Nat.le_trans (Nat.le_trans (Nat.le_trans (Nat.le_trans (Nat.le_trans (Nat.le_trans (Nat.le_trans (Nat.le_refl _) E821.1) (Keep.of_wr W824).1) E826.1) (Keep.of_wr W830).1) (Keep.of_wr W833).1) E835.1) (Keep.of_wr W840).1) (Keep.of_wr W843).1) (Keep.of_wr W846).1) E848.1) (Keep.of_wr W854).1) (Keep.of_wr W857).1) (Keep.of_wr W860).1) (Keep.of_wr W863).1) E865.1) (Keep.of_wr W872).1) (Keep.of_wr W875).1) (Keep.of_wr W878).1) (Keep.of_wr W881).1) (Keep.of_wr W884).1) E977.1) K983.1)
          refine own_retH X1026 hx hby hret hlk at_496 (.int (1 : Int32)) rfl (Or.inl ⟨rfl, by simp, _, rfl⟩) hZ hEL (by rw [show T1026.heap = _ from e1026, show s.heap = _ from eh]; exact f1030) hS (by rw [show T1026.heap = _ from e1026]; exact f1031) (by decide) (by decide) ?_
          exact ⟨rfl, (Fr.app (Fr.app (Fr.app (Fr.app N884 N983q) (Fr.nil _)) (Fr.nil _)) (Fr.nil _))⟩
        · -- pc 246: f
          refine own_iload X1024 hx hby at_249 rfl rfl ?_
          refine own_static X1024 hx hby hZ (argsL := [(.int y2)]) (rest := []) hown (hw _ tw_43) (hw _ tw_44) (hw _ tw_45) (hw _ tw_46) (by decide) (rm9 l Z a0 hw y2 T983.heap) e1024 (by rw [hml]; rfl) pd_19 rfl (by decide) (W := 0) (Nat.le_refl _) (by decide) (by decide) (by decide) at_251 rfl rfl (fun v1032 T1032 L1032 X1032 hQ1032 => ?_)
          obtain ⟨rfl, rfl, e1032⟩ := hQ1032
          show Ends p.tables e below _ (T1032.setTop (mkF m 254 #[.val (.int x0), .val (.int x1), .val (.int x2), .val (.int x3), .val (.int x4), .val (.int x5), .val (.int (3 : Int32)), .val (.int y0), .val (.int y1), .val (.int y2), .val (.int y3), .val (.int y4), .val (.ref b821), .val (.ref b826), .val (.ref b835), .val (.ref b848), .val (.ref b865), .val (.ref b977), .unset] [(.int (own_ok y2))]))
          refine own_if_eq X1032 hx hby at_254 (pcY := 261) (pcN := 257) (by decide) rfl (fun (hc1033 : (own_ok y2) = (0 : Int32)) => ?_) (fun (hc1033 : ¬ (own_ok y2) = (0 : Int32)) => ?_)
          · -- pc 254: t
            refine own_iconst X1032 hx hby at_261 rfl (0 : Int32) rfl ?_
            refine own_istore X1032 hx hby at_262 rfl #[.val (.int x0), .val (.int x1), .val (.int x2), .val (.int x3), .val (.int x4), .val (.int x5), .val (.int (3 : Int32)), .val (.int y0), .val (.int y1), .val (.int y2), .val (.int y3), .val (.int y4), .val (.ref b821), .val (.ref b826), .val (.ref b835), .val (.ref b848), .val (.ref b865), .val (.ref b977), .val (.int (0 : Int32))] rfl ?_
            refine own_goto X1032 hx hby at_264 (pc' := 481) (by decide) ?_
            refine own_aload X1032 hx hby at_481 rfl rfl rfl ?_
            have f1035 := (f984.keep K983 (allS ge_b977 all0))
            have f1036 := (A977.keep K983)
            refine own_static X1032 hx hby hZ (argsL := [(.ref b977)]) (rest := []) hown (hw _ tw_10) (hw _ tw_11) (hw _ tw_12) (hw _ tw_13) (by decide) (rmv1_3 l Z a0 hw b977 T983.heap G (f1035).2 hr0 hr1 hr2 f1036 B983 D983 V983) e1032 (by rw [hml]; rfl) pd_17 rfl (by decide) (W := 0) (Nat.le_refl _) (by decide) (by decide) (by decide) at_483 rfl rfl (fun v1034 T1034 L1034 X1034 hQ1034 => ?_)
            obtain ⟨rfl, rfl, e1034⟩ := hQ1034
            show Ends p.tables e below _ (T1034.setTop (mkF m 486 #[.val (.int x0), .val (.int x1), .val (.int x2), .val (.int x3), .val (.int x4), .val (.int x5), .val (.int (3 : Int32)), .val (.int y0), .val (.int y1), .val (.int y2), .val (.int y3), .val (.int y4), .val (.ref b821), .val (.ref b826), .val (.ref b835), .val (.ref b848), .val (.ref b865), .val (.ref b977), .val (.int (0 : Int32))] [(.int (own_all [y0, y1, y2]))]))
            refine own_iload X1034 hx hby at_486 rfl rfl ?_
            refine own_icmp_ne X1034 hx hby at_488 (pcY := 495) (pcN := 491) (by decide) rfl (fun (hc1037 : ¬ (own_all [y0, y1, y2]) = (0 : Int32)) => False.elim (by exact hc1037 (by rw [own_all1 hc1017, own_all1 hc1025, own_all0 hc1033]))) (fun (hc1037 : (own_all [y0, y1, y2]) = (0 : Int32)) => ?_)
            refine own_iconst X1034 hx hby at_491 rfl (1 : Int32) rfl ?_
            refine own_goto X1034 hx hby at_492 (pc' := 496) (by decide) ?_
            have f1038 := (own_Rk (own_Re f885 E977) K983 (allS sf_b977 all0))
            have f1039 := (Nat.le_trans (Nat.le_trans (Nat.le_trans (Nat.le_trans (Nat.le_trans (Nat.le_trans (Nat.le_trans (Nat.le_trans (Nat.le_trans (Nat.le_trans (Nat.le_trans (Nat.le_trans (Nat.le_trans (Nat.le_trans (Nat.le_trans (Nat.le_trans (Nat.le_trans (Nat.le_trans (Nat.le_trans (Nat.le_trans (Nat.le_trans (Nat.le_trans (Nat.le_refl _) E821.1) (Keep.of_wr W824).1) E826.1) (Keep.of_wr W830).1) (Keep.of_wr W833).1) E835.1) (Keep.of_wr W840).1) (Keep.of_wr W843).1) (Keep.of_wr W846).1) E848.1) (Keep.of_wr W854).1) (Keep.of_wr W857).1) (Keep.of_wr W860).1) (Keep.of_wr W863).1) E865.1) (Keep.of_wr W872).1) (Keep.of_wr W875).1) (Keep.of_wr W878).1) (Keep.of_wr W881).1) (Keep.of_wr W884).1) E977.1) K983.1)
            refine own_retH X1034 hx hby hret hlk at_496 (.int (1 : Int32)) rfl (Or.inl ⟨rfl, by simp, _, rfl⟩) hZ hEL (by rw [show T1034.heap = _ from e1034, show s.heap = _ from eh]; exact f1038) hS (by rw [show T1034.heap = _ from e1034]; exact f1039) (by decide) (by decide) ?_
            exact ⟨rfl, (Fr.app (Fr.app (Fr.app (Fr.app (Fr.app N884 N983q) (Fr.nil _)) (Fr.nil _)) (Fr.nil _)) (Fr.nil _))⟩
          · -- pc 254: f
            refine own_iconst X1032 hx hby at_257 rfl (1 : Int32) rfl ?_
            refine own_goto X1032 hx hby at_258 (pc' := 262) (by decide) ?_
            refine own_istore X1032 hx hby at_262 rfl #[.val (.int x0), .val (.int x1), .val (.int x2), .val (.int x3), .val (.int x4), .val (.int x5), .val (.int (3 : Int32)), .val (.int y0), .val (.int y1), .val (.int y2), .val (.int y3), .val (.int y4), .val (.ref b821), .val (.ref b826), .val (.ref b835), .val (.ref b848), .val (.ref b865), .val (.ref b977), .val (.int (1 : Int32))] rfl ?_
            refine own_goto X1032 hx hby at_264 (pc' := 481) (by decide) ?_
            refine own_aload X1032 hx hby at_481 rfl rfl rfl ?_
            have f1041 := (f984.keep K983 (allS ge_b977 all0))
            have f1042 := (A977.keep K983)
            refine own_static X1032 hx hby hZ (argsL := [(.ref b977)]) (rest := []) hown (hw _ tw_10) (hw _ tw_11) (hw _ tw_12) (hw _ tw_13) (by decide) (rmv1_3 l Z a0 hw b977 T983.heap G (f1041).2 hr0 hr1 hr2 f1042 B983 D983 V983) e1032 (by rw [hml]; rfl) pd_17 rfl (by decide) (W := 0) (Nat.le_refl _) (by decide) (by decide) (by decide) at_483 rfl rfl (fun v1040 T1040 L1040 X1040 hQ1040 => ?_)
            obtain ⟨rfl, rfl, e1040⟩ := hQ1040
            show Ends p.tables e below _ (T1040.setTop (mkF m 486 #[.val (.int x0), .val (.int x1), .val (.int x2), .val (.int x3), .val (.int x4), .val (.int x5), .val (.int (3 : Int32)), .val (.int y0), .val (.int y1), .val (.int y2), .val (.int y3), .val (.int y4), .val (.ref b821), .val (.ref b826), .val (.ref b835), .val (.ref b848), .val (.ref b865), .val (.ref b977), .val (.int (1 : Int32))] [(.int (own_all [y0, y1, y2]))]))
            refine own_iload X1040 hx hby at_486 rfl rfl ?_
            refine own_icmp_ne X1040 hx hby at_488 (pcY := 495) (pcN := 491) (by decide) rfl (fun (hc1043 : ¬ (own_all [y0, y1, y2]) = (1 : Int32)) => False.elim (by exact hc1043 (by rw [own_all1 hc1017, own_all1 hc1025, own_all1 hc1033]; rfl))) (fun (hc1043 : (own_all [y0, y1, y2]) = (1 : Int32)) => ?_)
            refine own_iconst X1040 hx hby at_491 rfl (1 : Int32) rfl ?_
            refine own_goto X1040 hx hby at_492 (pc' := 496) (by decide) ?_
            have f1044 := (own_Rk (own_Re f885 E977) K983 (allS sf_b977 all0))
            have f1045 := (Nat.le_trans (Nat.le_trans (Nat.le_trans (Nat.le_trans (Nat.le_trans (Nat.le_trans (Nat.le_trans (Nat.le_trans (Nat.le_trans (Nat.le_trans (Nat.le_trans (Nat.le_trans (Nat.le_trans (Nat.le_trans (Nat.le_trans (Nat.le_trans (Nat.le_trans (Nat.le_trans (Nat.le_trans (Nat.le_trans (Nat.le_trans (Nat.le_trans (Nat.le_refl _) E821.1) (Keep.of_wr W824).1) E826.1) (Keep.of_wr W830).1) (Keep.of_wr W833).1) E835.1) (Keep.of_wr W840).1) (Keep.of_wr W843).1) (Keep.of_wr W846).1) E848.1) (Keep.of_wr W854).1) (Keep.of_wr W857).1) (Keep.of_wr W860).1) (Keep.of_wr W863).1) E865.1) (Keep.of_wr W872).1) (Keep.of_wr W875).1) (Keep.of_wr W878).1) (Keep.of_wr W881).1) (Keep.of_wr W884).1) E977.1) K983.1)
            refine own_retH X1040 hx hby hret hlk at_496 (.int (1 : Int32)) rfl (Or.inl ⟨rfl, by simp, _, rfl⟩) hZ hEL (by rw [show T1040.heap = _ from e1040, show s.heap = _ from eh]; exact f1044) hS (by rw [show T1040.heap = _ from e1040]; exact f1045) (by decide) (by decide) ?_
            exact ⟨rfl, (Fr.app (Fr.app (Fr.app (Fr.app (Fr.app N884 N983q) (Fr.nil _)) (Fr.nil _)) (Fr.nil _)) (Fr.nil _))⟩
  · -- 4
    rw [hz]
    show Ends p.tables e below _ (T884.setTop (mkF m 131 #[.val (.int x0), .val (.int x1), .val (.int x2), .val (.int x3), .val (.int x4), .val (.int x5), .val (.int (4 : Int32)), .val (.int y0), .val (.int y1), .val (.int y2), .val (.int y3), .val (.int y4), .val (.ref b821), .val (.ref b826), .val (.ref b835), .val (.ref b848), .val (.ref b865), .unset, .unset] []))
    refine own_iload X884 hx hby at_131 rfl rfl ?_
    refine own_if_ne X884 hx hby at_133 (pcY := 146) (pcN := 136) (by decide) rfl (fun (hc1046 : ¬ (4 : Int32) = (0 : Int32)) => ?_) (fun (hc1046 : (4 : Int32) = (0 : Int32)) => False.elim (by exact absurd hc1046 (by decide)))
    refine own_iload X884 hx hby at_146 rfl rfl ?_
    refine own_iconst X884 hx hby at_148 rfl (1 : Int32) rfl ?_
    refine own_icmp_ne X884 hx hby at_149 (pcY := 173) (pcN := 152) (by decide) rfl (fun (hc1047 : ¬ (4 : Int32) = (1 : Int32)) => ?_) (fun (hc1047 : (4 : Int32) = (1 : Int32)) => False.elim (by exact absurd hc1047 (by decide)))
    refine own_iload X884 hx hby at_173 rfl rfl ?_
    refine own_iconst X884 hx hby at_175 rfl (2 : Int32) rfl ?_
    refine own_icmp_ne X884 hx hby at_176 (pcY := 216) (pcN := 179) (by decide) rfl (fun (hc1048 : ¬ (4 : Int32) = (2 : Int32)) => ?_) (fun (hc1048 : (4 : Int32) = (2 : Int32)) => False.elim (by exact absurd hc1048 (by decide)))
    refine own_iload X884 hx hby at_216 rfl rfl ?_
    refine own_iconst X884 hx hby at_218 rfl (3 : Int32) rfl ?_
    refine own_icmp_ne X884 hx hby at_219 (pcY := 267) (pcN := 222) (by decide) rfl (fun (hc1049 : ¬ (4 : Int32) = (3 : Int32)) => ?_) (fun (hc1049 : (4 : Int32) = (3 : Int32)) => False.elim (by exact absurd hc1049 (by decide)))
    refine own_iload X884 hx hby at_267 rfl rfl ?_
    refine own_iconst X884 hx hby at_269 rfl (4 : Int32) rfl ?_
    refine own_icmp_ne X884 hx hby at_270 (pcY := 326) (pcN := 273) (by decide) rfl (fun (hc1050 : ¬ (4 : Int32) = (4 : Int32)) => False.elim (by exact absurd hc1050 (by decide))) (fun (hc1050 : (4 : Int32) = (4 : Int32)) => ?_)
    have f1052 := ((((((f866.ext E865).wr W872 ge_b865).wr W875 ge_b865).wr W878 ge_b865).wr W881 ge_b865).wr W884 ge_b865)
    refine own_new X884 hx hby hZ hown (hw _ tw_20) (hw _ tw_4) (hw _ tw_3) e884 (by decide) (by decide) at_273 rfl (fun T1051 h1051 b1051 X1051 e1051 g1051 E1051 A1051 D1051 => ?_)
    have ge_b1051 : n0 ≤ b1051 := own_ge f1052 g1051
    have ne_b865_b1051 : b865 ≠ b1051 := own_lt V884.lt g1051
    have f1053 := ((((((f867.ext E865).other W872 ne_b821_b865).other W875 ne_b821_b865).other W878 ne_b821_b865).other W881 ne_b821_b865).other W884 ne_b821_b865)
    have ne_b821_b1051 : b821 ≠ b1051 := own_lt f1053.lt g1051
    have f1054 := ((((((f868.ext E865).other W872 ne_b826_b865).other W875 ne_b826_b865).other W878 ne_b826_b865).other W881 ne_b826_b865).other W884 ne_b826_b865)
    have ne_b826_b1051 : b826 ≠ b1051 := own_lt f1054.lt g1051
    have f1055 := ((((((f869.ext E865).other W872 ne_b835_b865).other W875 ne_b835_b865).other W878 ne_b835_b865).other W881 ne_b835_b865).other W884 ne_b835_b865)
    have ne_b835_b1051 : b835 ≠ b1051 := own_lt f1055.lt g1051
    have f1056 := ((((((V863.ext E865).other W872 ne_b848_b865).other W875 ne_b848_b865).other W878 ne_b848_b865).other W881 ne_b848_b865).other W884 ne_b848_b865)
    have ne_b848_b1051 : b848 ≠ b1051 := own_lt f1056.lt g1051
    have F1051_value : Fld Z h1051 b1051 "java/lang/String" "value" "[B" .null := D1051 (Or.inr (hw _ tw_6)) (ty := (.array .byte)) (by decide)
    have F1051_coder : Fld Z h1051 b1051 "java/lang/String" "coder" "B" (.int (0 : Int32)) := D1051 (Or.inr (hw _ tw_7)) (ty := .byte) (by decide)
    have sf_b1051 := Safe.ext E1051 f885.1 (Safe.new (EL := consts_1) (Nat.le_of_eq g1051.symm))
    refine own_dup X1051 hx hby at_276 rfl rfl ?_
    refine own_aload X1051 hx hby at_277 rfl rfl rfl ?_
    have f1058 := (f1052.ext E1051)
    have f1059 := (f1056.ext E1051)
    refine own_special X1051 hx hby hZ (a := b1051) (argsL := [(.ref b848)]) (rest := [(.ref b1051)]) hown rfl (hw _ tw_21) (hw _ tw_22) (hw _ tw_3) (hw _ tw_23) (by decide) (rmi1_4 l Z a0 hw b1051 b848 h1051 n0 G ge_b1051 A1051 F1051_coder F1051_value f1058 hr0 hr1 hr2 hr3 f1059) e1051 (by rw [hml]; rfl) pd_18 rfl (by decide) (W := 1) (Nat.le_refl _) (by decide) (by decide) (by decide) at_279 rfl rfl (fun v1057 T1057 L1057 X1057 hQ1057 => ?_)
    rcases hQ1057 with ⟨b1057, k1057, rfl, N1057q, K1057, D1057, (⟨al1057, B1057, V1057⟩ | ⟨B1057, V1057⟩)⟩
    · -- latin
      show Ends p.tables e below _ (T1057.setTop (mkF m 282 #[.val (.int x0), .val (.int x1), .val (.int x2), .val (.int x3), .val (.int x4), .val (.int x5), .val (.int (4 : Int32)), .val (.int y0), .val (.int y1), .val (.int y2), .val (.int y3), .val (.int y4), .val (.ref b821), .val (.ref b826), .val (.ref b835), .val (.ref b848), .val (.ref b865), .unset, .unset] [(.ref b1051)]))
      refine own_astore X1057 hx hby at_282 rfl #[.val (.int x0), .val (.int x1), .val (.int x2), .val (.int x3), .val (.int x4), .val (.int x5), .val (.int (4 : Int32)), .val (.int y0), .val (.int y1), .val (.int y2), .val (.int y3), .val (.int y4), .val (.ref b821), .val (.ref b826), .val (.ref b835), .val (.ref b848), .val (.ref b865), .val (.ref b1051), .unset] rfl rfl ?_
      refine own_iload X1057 hx hby at_284 rfl rfl ?_
      refine own_static X1057 hx hby hZ (argsL := [(.int y0)]) (rest := []) hown (hw _ tw_43) (hw _ tw_44) (hw _ tw_45) (hw _ tw_46) (by decide) (rm9 l Z a0 hw y0 T1057.heap) rfl (by rw [hml]; rfl) pd_19 rfl (by decide) (W := 0) (Nat.le_refl _) (by decide) (by decide) (by decide) at_286 rfl rfl (fun v1060 T1060 L1060 X1060 hQ1060 => ?_)
      obtain ⟨rfl, rfl, e1060⟩ := hQ1060
      show Ends p.tables e below _ (T1060.setTop (mkF m 289 #[.val (.int x0), .val (.int x1), .val (.int x2), .val (.int x3), .val (.int x4), .val (.int x5), .val (.int (4 : Int32)), .val (.int y0), .val (.int y1), .val (.int y2), .val (.int y3), .val (.int y4), .val (.ref b821), .val (.ref b826), .val (.ref b835), .val (.ref b848), .val (.ref b865), .val (.ref b1051), .unset] [(.int (own_ok y0))]))
      refine own_if_eq X1060 hx hby at_289 (pcY := 320) (pcN := 292) (by decide) rfl (fun (hc1061 : (own_ok y0) = (0 : Int32)) => ?_) (fun (hc1061 : ¬ (own_ok y0) = (0 : Int32)) => ?_)
      · -- pc 289: t
        refine own_iconst X1060 hx hby at_320 rfl (0 : Int32) rfl ?_
        refine own_istore X1060 hx hby at_321 rfl #[.val (.int x0), .val (.int x1), .val (.int x2), .val (.int x3), .val (.int x4), .val (.int x5), .val (.int (4 : Int32)), .val (.int y0), .val (.int y1), .val (.int y2), .val (.int y3), .val (.int y4), .val (.ref b821), .val (.ref b826), .val (.ref b835), .val (.ref b848), .val (.ref b865), .val (.ref b1051), .val (.int (0 : Int32))] rfl ?_
        refine own_goto X1060 hx hby at_323 (pc' := 481) (by decide) ?_
        refine own_aload X1060 hx hby at_481 rfl rfl rfl ?_
        have f1063 := (f1058.keep K1057 (allS ge_b1051 all0))
        have f1064 := (A1051.keep K1057)
        refine own_static X1060 hx hby hZ (argsL := [(.ref b1051)]) (rest := []) hown (hw _ tw_10) (hw _ tw_11) (hw _ tw_12) (hw _ tw_13) (by decide) (rmv0_4 l Z a0 hw b1051 T1057.heap G (f1063).2 ⟨hr0.1, by have q := al1057; omega⟩ ⟨hr1.1, by have q := al1057; omega⟩ ⟨hr2.1, by have q := al1057; omega⟩ ⟨hr3.1, by have q := al1057; omega⟩ f1064 B1057 D1057 V1057) e1060 (by rw [hml]; rfl) pd_17 rfl (by decide) (W := 0) (Nat.le_refl _) (by decide) (by decide) (by decide) at_483 rfl rfl (fun v1062 T1062 L1062 X1062 hQ1062 => ?_)
        obtain ⟨rfl, rfl, e1062⟩ := hQ1062
        show Ends p.tables e below _ (T1062.setTop (mkF m 486 #[.val (.int x0), .val (.int x1), .val (.int x2), .val (.int x3), .val (.int x4), .val (.int x5), .val (.int (4 : Int32)), .val (.int y0), .val (.int y1), .val (.int y2), .val (.int y3), .val (.int y4), .val (.ref b821), .val (.ref b826), .val (.ref b835), .val (.ref b848), .val (.ref b865), .val (.ref b1051), .val (.int (0 : Int32))] [(.int (own_all [y0, y1, y2, y3]))]))
        refine own_iload X1062 hx hby at_486 rfl rfl ?_
        refine own_icmp_ne X1062 hx hby at_488 (pcY := 495) (pcN := 491) (by decide) rfl (fun (hc1065 : ¬ (own_all [y0, y1, y2, y3]) = (0 : Int32)) => False.elim (by exact hc1065 (by rw [own_all0 hc1061]))) (fun (hc1065 : (own_all [y0, y1, y2, y3]) = (0 : Int32)) => ?_)
        refine own_iconst X1062 hx hby at_491 rfl (1 : Int32) rfl ?_
        refine own_goto X1062 hx hby at_492 (pc' := 496) (by decide) ?_
        have f1066 := (own_Rk (own_Re f885 E1051) K1057 (allS sf_b1051 all0))
        have f1067 := (Nat.le_trans (Nat.le_trans (Nat.le_trans (Nat.le_trans (Nat.le_trans (Nat.le_trans (Nat.le_trans (Nat.le_trans (Nat.le_trans (Nat.le_trans (Nat.le_trans (Nat.le_trans (Nat.le_trans (Nat.le_trans (Nat.le_trans (Nat.le_trans (Nat.le_trans (Nat.le_trans (Nat.le_trans (Nat.le_trans (Nat.le_trans (Nat.le_trans (Nat.le_refl _) E821.1) (Keep.of_wr W824).1) E826.1) (Keep.of_wr W830).1) (Keep.of_wr W833).1) E835.1) (Keep.of_wr W840).1) (Keep.of_wr W843).1) (Keep.of_wr W846).1) E848.1) (Keep.of_wr W854).1) (Keep.of_wr W857).1) (Keep.of_wr W860).1) (Keep.of_wr W863).1) E865.1) (Keep.of_wr W872).1) (Keep.of_wr W875).1) (Keep.of_wr W878).1) (Keep.of_wr W881).1) (Keep.of_wr W884).1) E1051.1) K1057.1)
        refine own_retH X1062 hx hby hret hlk at_496 (.int (1 : Int32)) rfl (Or.inl ⟨rfl, by simp, _, rfl⟩) hZ hEL (by rw [show T1062.heap = _ from e1062, show s.heap = _ from eh]; exact f1066) hS (by rw [show T1062.heap = _ from e1062]; exact f1067) (by decide) (by decide) ?_
        exact ⟨rfl, (Fr.app (Fr.app (Fr.app N884 N1057q) (Fr.nil _)) (Fr.nil _))⟩
      · -- pc 289: f
        refine own_iload X1060 hx hby at_292 rfl rfl ?_
        refine own_static X1060 hx hby hZ (argsL := [(.int y1)]) (rest := []) hown (hw _ tw_43) (hw _ tw_44) (hw _ tw_45) (hw _ tw_46) (by decide) (rm9 l Z a0 hw y1 T1057.heap) e1060 (by rw [hml]; rfl) pd_19 rfl (by decide) (W := 0) (Nat.le_refl _) (by decide) (by decide) (by decide) at_294 rfl rfl (fun v1068 T1068 L1068 X1068 hQ1068 => ?_)
        obtain ⟨rfl, rfl, e1068⟩ := hQ1068
        show Ends p.tables e below _ (T1068.setTop (mkF m 297 #[.val (.int x0), .val (.int x1), .val (.int x2), .val (.int x3), .val (.int x4), .val (.int x5), .val (.int (4 : Int32)), .val (.int y0), .val (.int y1), .val (.int y2), .val (.int y3), .val (.int y4), .val (.ref b821), .val (.ref b826), .val (.ref b835), .val (.ref b848), .val (.ref b865), .val (.ref b1051), .unset] [(.int (own_ok y1))]))
        refine own_if_eq X1068 hx hby at_297 (pcY := 320) (pcN := 300) (by decide) rfl (fun (hc1069 : (own_ok y1) = (0 : Int32)) => ?_) (fun (hc1069 : ¬ (own_ok y1) = (0 : Int32)) => ?_)
        · -- pc 297: t
          refine own_iconst X1068 hx hby at_320 rfl (0 : Int32) rfl ?_
          refine own_istore X1068 hx hby at_321 rfl #[.val (.int x0), .val (.int x1), .val (.int x2), .val (.int x3), .val (.int x4), .val (.int x5), .val (.int (4 : Int32)), .val (.int y0), .val (.int y1), .val (.int y2), .val (.int y3), .val (.int y4), .val (.ref b821), .val (.ref b826), .val (.ref b835), .val (.ref b848), .val (.ref b865), .val (.ref b1051), .val (.int (0 : Int32))] rfl ?_
          refine own_goto X1068 hx hby at_323 (pc' := 481) (by decide) ?_
          refine own_aload X1068 hx hby at_481 rfl rfl rfl ?_
          have f1071 := (f1058.keep K1057 (allS ge_b1051 all0))
          have f1072 := (A1051.keep K1057)
          refine own_static X1068 hx hby hZ (argsL := [(.ref b1051)]) (rest := []) hown (hw _ tw_10) (hw _ tw_11) (hw _ tw_12) (hw _ tw_13) (by decide) (rmv0_4 l Z a0 hw b1051 T1057.heap G (f1071).2 ⟨hr0.1, by have q := al1057; omega⟩ ⟨hr1.1, by have q := al1057; omega⟩ ⟨hr2.1, by have q := al1057; omega⟩ ⟨hr3.1, by have q := al1057; omega⟩ f1072 B1057 D1057 V1057) e1068 (by rw [hml]; rfl) pd_17 rfl (by decide) (W := 0) (Nat.le_refl _) (by decide) (by decide) (by decide) at_483 rfl rfl (fun v1070 T1070 L1070 X1070 hQ1070 => ?_)
          obtain ⟨rfl, rfl, e1070⟩ := hQ1070
          show Ends p.tables e below _ (T1070.setTop (mkF m 486 #[.val (.int x0), .val (.int x1), .val (.int x2), .val (.int x3), .val (.int x4), .val (.int x5), .val (.int (4 : Int32)), .val (.int y0), .val (.int y1), .val (.int y2), .val (.int y3), .val (.int y4), .val (.ref b821), .val (.ref b826), .val (.ref b835), .val (.ref b848), .val (.ref b865), .val (.ref b1051), .val (.int (0 : Int32))] [(.int (own_all [y0, y1, y2, y3]))]))
          refine own_iload X1070 hx hby at_486 rfl rfl ?_
          refine own_icmp_ne X1070 hx hby at_488 (pcY := 495) (pcN := 491) (by decide) rfl (fun (hc1073 : ¬ (own_all [y0, y1, y2, y3]) = (0 : Int32)) => False.elim (by exact hc1073 (by rw [own_all1 hc1061, own_all0 hc1069]))) (fun (hc1073 : (own_all [y0, y1, y2, y3]) = (0 : Int32)) => ?_)
          refine own_iconst X1070 hx hby at_491 rfl (1 : Int32) rfl ?_
          refine own_goto X1070 hx hby at_492 (pc' := 496) (by decide) ?_
          have f1074 := (own_Rk (own_Re f885 E1051) K1057 (allS sf_b1051 all0))
          have f1075 := (Nat.le_trans (Nat.le_trans (Nat.le_trans (Nat.le_trans (Nat.le_trans (Nat.le_trans (Nat.le_trans (Nat.le_trans (Nat.le_trans (Nat.le_trans (Nat.le_trans (Nat.le_trans (Nat.le_trans (Nat.le_trans (Nat.le_trans (Nat.le_trans (Nat.le_trans (Nat.le_trans (Nat.le_trans (Nat.le_trans (Nat.le_trans (Nat.le_trans (Nat.le_refl _) E821.1) (Keep.of_wr W824).1) E826.1) (Keep.of_wr W830).1) (Keep.of_wr W833).1) E835.1) (Keep.of_wr W840).1) (Keep.of_wr W843).1) (Keep.of_wr W846).1) E848.1) (Keep.of_wr W854).1) (Keep.of_wr W857).1) (Keep.of_wr W860).1) (Keep.of_wr W863).1) E865.1) (Keep.of_wr W872).1) (Keep.of_wr W875).1) (Keep.of_wr W878).1) (Keep.of_wr W881).1) (Keep.of_wr W884).1) E1051.1) K1057.1)
          refine own_retH X1070 hx hby hret hlk at_496 (.int (1 : Int32)) rfl (Or.inl ⟨rfl, by simp, _, rfl⟩) hZ hEL (by rw [show T1070.heap = _ from e1070, show s.heap = _ from eh]; exact f1074) hS (by rw [show T1070.heap = _ from e1070]; exact f1075) (by decide) (by decide) ?_
          exact ⟨rfl, (Fr.app (Fr.app (Fr.app (Fr.app N884 N1057q) (Fr.nil _)) (Fr.nil _)) (Fr.nil _))⟩
        · -- pc 297: f
          refine own_iload X1068 hx hby at_300 rfl rfl ?_
          refine own_static X1068 hx hby hZ (argsL := [(.int y2)]) (rest := []) hown (hw _ tw_43) (hw _ tw_44) (hw _ tw_45) (hw _ tw_46) (by decide) (rm9 l Z a0 hw y2 T1057.heap) e1068 (by rw [hml]; rfl) pd_19 rfl (by decide) (W := 0) (Nat.le_refl _) (by decide) (by decide) (by decide) at_302 rfl rfl (fun v1076 T1076 L1076 X1076 hQ1076 => ?_)
          obtain ⟨rfl, rfl, e1076⟩ := hQ1076
          show Ends p.tables e below _ (T1076.setTop (mkF m 305 #[.val (.int x0), .val (.int x1), .val (.int x2), .val (.int x3), .val (.int x4), .val (.int x5), .val (.int (4 : Int32)), .val (.int y0), .val (.int y1), .val (.int y2), .val (.int y3), .val (.int y4), .val (.ref b821), .val (.ref b826), .val (.ref b835), .val (.ref b848), .val (.ref b865), .val (.ref b1051), .unset] [(.int (own_ok y2))]))
          refine own_if_eq X1076 hx hby at_305 (pcY := 320) (pcN := 308) (by decide) rfl (fun (hc1077 : (own_ok y2) = (0 : Int32)) => ?_) (fun (hc1077 : ¬ (own_ok y2) = (0 : Int32)) => ?_)
          · -- pc 305: t
            refine own_iconst X1076 hx hby at_320 rfl (0 : Int32) rfl ?_
            refine own_istore X1076 hx hby at_321 rfl #[.val (.int x0), .val (.int x1), .val (.int x2), .val (.int x3), .val (.int x4), .val (.int x5), .val (.int (4 : Int32)), .val (.int y0), .val (.int y1), .val (.int y2), .val (.int y3), .val (.int y4), .val (.ref b821), .val (.ref b826), .val (.ref b835), .val (.ref b848), .val (.ref b865), .val (.ref b1051), .val (.int (0 : Int32))] rfl ?_
            refine own_goto X1076 hx hby at_323 (pc' := 481) (by decide) ?_
            refine own_aload X1076 hx hby at_481 rfl rfl rfl ?_
            have f1079 := (f1058.keep K1057 (allS ge_b1051 all0))
            have f1080 := (A1051.keep K1057)
            refine own_static X1076 hx hby hZ (argsL := [(.ref b1051)]) (rest := []) hown (hw _ tw_10) (hw _ tw_11) (hw _ tw_12) (hw _ tw_13) (by decide) (rmv0_4 l Z a0 hw b1051 T1057.heap G (f1079).2 ⟨hr0.1, by have q := al1057; omega⟩ ⟨hr1.1, by have q := al1057; omega⟩ ⟨hr2.1, by have q := al1057; omega⟩ ⟨hr3.1, by have q := al1057; omega⟩ f1080 B1057 D1057 V1057) e1076 (by rw [hml]; rfl) pd_17 rfl (by decide) (W := 0) (Nat.le_refl _) (by decide) (by decide) (by decide) at_483 rfl rfl (fun v1078 T1078 L1078 X1078 hQ1078 => ?_)
            obtain ⟨rfl, rfl, e1078⟩ := hQ1078
            show Ends p.tables e below _ (T1078.setTop (mkF m 486 #[.val (.int x0), .val (.int x1), .val (.int x2), .val (.int x3), .val (.int x4), .val (.int x5), .val (.int (4 : Int32)), .val (.int y0), .val (.int y1), .val (.int y2), .val (.int y3), .val (.int y4), .val (.ref b821), .val (.ref b826), .val (.ref b835), .val (.ref b848), .val (.ref b865), .val (.ref b1051), .val (.int (0 : Int32))] [(.int (own_all [y0, y1, y2, y3]))]))
            refine own_iload X1078 hx hby at_486 rfl rfl ?_
            refine own_icmp_ne X1078 hx hby at_488 (pcY := 495) (pcN := 491) (by decide) rfl (fun (hc1081 : ¬ (own_all [y0, y1, y2, y3]) = (0 : Int32)) => False.elim (by exact hc1081 (by rw [own_all1 hc1061, own_all1 hc1069, own_all0 hc1077]))) (fun (hc1081 : (own_all [y0, y1, y2, y3]) = (0 : Int32)) => ?_)
            refine own_iconst X1078 hx hby at_491 rfl (1 : Int32) rfl ?_
            refine own_goto X1078 hx hby at_492 (pc' := 496) (by decide) ?_
            have f1082 := (own_Rk (own_Re f885 E1051) K1057 (allS sf_b1051 all0))
            have f1083 := (Nat.le_trans (Nat.le_trans (Nat.le_trans (Nat.le_trans (Nat.le_trans (Nat.le_trans (Nat.le_trans (Nat.le_trans (Nat.le_trans (Nat.le_trans (Nat.le_trans (Nat.le_trans (Nat.le_trans (Nat.le_trans (Nat.le_trans (Nat.le_trans (Nat.le_trans (Nat.le_trans (Nat.le_trans (Nat.le_trans (Nat.le_trans (Nat.le_trans (Nat.le_refl _) E821.1) (Keep.of_wr W824).1) E826.1) (Keep.of_wr W830).1) (Keep.of_wr W833).1) E835.1) (Keep.of_wr W840).1) (Keep.of_wr W843).1) (Keep.of_wr W846).1) E848.1) (Keep.of_wr W854).1) (Keep.of_wr W857).1) (Keep.of_wr W860).1) (Keep.of_wr W863).1) E865.1) (Keep.of_wr W872).1) (Keep.of_wr W875).1) (Keep.of_wr W878).1) (Keep.of_wr W881).1) (Keep.of_wr W884).1) E1051.1) K1057.1)
            refine own_retH X1078 hx hby hret hlk at_496 (.int (1 : Int32)) rfl (Or.inl ⟨rfl, by simp, _, rfl⟩) hZ hEL (by rw [show T1078.heap = _ from e1078, show s.heap = _ from eh]; exact f1082) hS (by rw [show T1078.heap = _ from e1078]; exact f1083) (by decide) (by decide) ?_
            exact ⟨rfl, (Fr.app (Fr.app (Fr.app (Fr.app (Fr.app N884 N1057q) (Fr.nil _)) (Fr.nil _)) (Fr.nil _)) (Fr.nil _))⟩
          · -- pc 305: f
            refine own_iload X1076 hx hby at_308 rfl rfl ?_
            refine own_static X1076 hx hby hZ (argsL := [(.int y3)]) (rest := []) hown (hw _ tw_43) (hw _ tw_44) (hw _ tw_45) (hw _ tw_46) (by decide) (rm9 l Z a0 hw y3 T1057.heap) e1076 (by rw [hml]; rfl) pd_19 rfl (by decide) (W := 0) (Nat.le_refl _) (by decide) (by decide) (by decide) at_310 rfl rfl (fun v1084 T1084 L1084 X1084 hQ1084 => ?_)
            obtain ⟨rfl, rfl, e1084⟩ := hQ1084
            show Ends p.tables e below _ (T1084.setTop (mkF m 313 #[.val (.int x0), .val (.int x1), .val (.int x2), .val (.int x3), .val (.int x4), .val (.int x5), .val (.int (4 : Int32)), .val (.int y0), .val (.int y1), .val (.int y2), .val (.int y3), .val (.int y4), .val (.ref b821), .val (.ref b826), .val (.ref b835), .val (.ref b848), .val (.ref b865), .val (.ref b1051), .unset] [(.int (own_ok y3))]))
            refine own_if_eq X1084 hx hby at_313 (pcY := 320) (pcN := 316) (by decide) rfl (fun (hc1085 : (own_ok y3) = (0 : Int32)) => ?_) (fun (hc1085 : ¬ (own_ok y3) = (0 : Int32)) => ?_)
            · -- pc 313: t
              refine own_iconst X1084 hx hby at_320 rfl (0 : Int32) rfl ?_
              refine own_istore X1084 hx hby at_321 rfl #[.val (.int x0), .val (.int x1), .val (.int x2), .val (.int x3), .val (.int x4), .val (.int x5), .val (.int (4 : Int32)), .val (.int y0), .val (.int y1), .val (.int y2), .val (.int y3), .val (.int y4), .val (.ref b821), .val (.ref b826), .val (.ref b835), .val (.ref b848), .val (.ref b865), .val (.ref b1051), .val (.int (0 : Int32))] rfl ?_
              refine own_goto X1084 hx hby at_323 (pc' := 481) (by decide) ?_
              refine own_aload X1084 hx hby at_481 rfl rfl rfl ?_
              have f1087 := (f1058.keep K1057 (allS ge_b1051 all0))
              have f1088 := (A1051.keep K1057)
              refine own_static X1084 hx hby hZ (argsL := [(.ref b1051)]) (rest := []) hown (hw _ tw_10) (hw _ tw_11) (hw _ tw_12) (hw _ tw_13) (by decide) (rmv0_4 l Z a0 hw b1051 T1057.heap G (f1087).2 ⟨hr0.1, by have q := al1057; omega⟩ ⟨hr1.1, by have q := al1057; omega⟩ ⟨hr2.1, by have q := al1057; omega⟩ ⟨hr3.1, by have q := al1057; omega⟩ f1088 B1057 D1057 V1057) e1084 (by rw [hml]; rfl) pd_17 rfl (by decide) (W := 0) (Nat.le_refl _) (by decide) (by decide) (by decide) at_483 rfl rfl (fun v1086 T1086 L1086 X1086 hQ1086 => ?_)
              obtain ⟨rfl, rfl, e1086⟩ := hQ1086
              show Ends p.tables e below _ (T1086.setTop (mkF m 486 #[.val (.int x0), .val (.int x1), .val (.int x2), .val (.int x3), .val (.int x4), .val (.int x5), .val (.int (4 : Int32)), .val (.int y0), .val (.int y1), .val (.int y2), .val (.int y3), .val (.int y4), .val (.ref b821), .val (.ref b826), .val (.ref b835), .val (.ref b848), .val (.ref b865), .val (.ref b1051), .val (.int (0 : Int32))] [(.int (own_all [y0, y1, y2, y3]))]))
              refine own_iload X1086 hx hby at_486 rfl rfl ?_
              refine own_icmp_ne X1086 hx hby at_488 (pcY := 495) (pcN := 491) (by decide) rfl (fun (hc1089 : ¬ (own_all [y0, y1, y2, y3]) = (0 : Int32)) => False.elim (by exact hc1089 (by rw [own_all1 hc1061, own_all1 hc1069, own_all1 hc1077, own_all0 hc1085]))) (fun (hc1089 : (own_all [y0, y1, y2, y3]) = (0 : Int32)) => ?_)
              refine own_iconst X1086 hx hby at_491 rfl (1 : Int32) rfl ?_
              refine own_goto X1086 hx hby at_492 (pc' := 496) (by decide) ?_
              have f1090 := (own_Rk (own_Re f885 E1051) K1057 (allS sf_b1051 all0))
              have f1091 := (Nat.le_trans (Nat.le_trans (Nat.le_trans (Nat.le_trans (Nat.le_trans (Nat.le_trans (Nat.le_trans (Nat.le_trans (Nat.le_trans (Nat.le_trans (Nat.le_trans (Nat.le_trans (Nat.le_trans (Nat.le_trans (Nat.le_trans (Nat.le_trans (Nat.le_trans (Nat.le_trans (Nat.le_trans (Nat.le_trans (Nat.le_trans (Nat.le_trans (Nat.le_refl _) E821.1) (Keep.of_wr W824).1) E826.1) (Keep.of_wr W830).1) (Keep.of_wr W833).1) E835.1) (Keep.of_wr W840).1) (Keep.of_wr W843).1) (Keep.of_wr W846).1) E848.1) (Keep.of_wr W854).1) (Keep.of_wr W857).1) (Keep.of_wr W860).1) (Keep.of_wr W863).1) E865.1) (Keep.of_wr W872).1) (Keep.of_wr W875).1) (Keep.of_wr W878).1) (Keep.of_wr W881).1) (Keep.of_wr W884).1) E1051.1) K1057.1)
              refine own_retH X1086 hx hby hret hlk at_496 (.int (1 : Int32)) rfl (Or.inl ⟨rfl, by simp, _, rfl⟩) hZ hEL (by rw [show T1086.heap = _ from e1086, show s.heap = _ from eh]; exact f1090) hS (by rw [show T1086.heap = _ from e1086]; exact f1091) (by decide) (by decide) ?_
              exact ⟨rfl, (Fr.app (Fr.app (Fr.app (Fr.app (Fr.app (Fr.app N884 N1057q) (Fr.nil _)) (Fr.nil _)) (Fr.nil _)) (Fr.nil _)) (Fr.nil _))⟩
            · -- pc 313: f
              refine own_iconst X1084 hx hby at_316 rfl (1 : Int32) rfl ?_
              refine own_goto X1084 hx hby at_317 (pc' := 321) (by decide) ?_
              refine own_istore X1084 hx hby at_321 rfl #[.val (.int x0), .val (.int x1), .val (.int x2), .val (.int x3), .val (.int x4), .val (.int x5), .val (.int (4 : Int32)), .val (.int y0), .val (.int y1), .val (.int y2), .val (.int y3), .val (.int y4), .val (.ref b821), .val (.ref b826), .val (.ref b835), .val (.ref b848), .val (.ref b865), .val (.ref b1051), .val (.int (1 : Int32))] rfl ?_
              refine own_goto X1084 hx hby at_323 (pc' := 481) (by decide) ?_
              refine own_aload X1084 hx hby at_481 rfl rfl rfl ?_
              have f1093 := (f1058.keep K1057 (allS ge_b1051 all0))
              have f1094 := (A1051.keep K1057)
              refine own_static X1084 hx hby hZ (argsL := [(.ref b1051)]) (rest := []) hown (hw _ tw_10) (hw _ tw_11) (hw _ tw_12) (hw _ tw_13) (by decide) (rmv0_4 l Z a0 hw b1051 T1057.heap G (f1093).2 ⟨hr0.1, by have q := al1057; omega⟩ ⟨hr1.1, by have q := al1057; omega⟩ ⟨hr2.1, by have q := al1057; omega⟩ ⟨hr3.1, by have q := al1057; omega⟩ f1094 B1057 D1057 V1057) e1084 (by rw [hml]; rfl) pd_17 rfl (by decide) (W := 0) (Nat.le_refl _) (by decide) (by decide) (by decide) at_483 rfl rfl (fun v1092 T1092 L1092 X1092 hQ1092 => ?_)
              obtain ⟨rfl, rfl, e1092⟩ := hQ1092
              show Ends p.tables e below _ (T1092.setTop (mkF m 486 #[.val (.int x0), .val (.int x1), .val (.int x2), .val (.int x3), .val (.int x4), .val (.int x5), .val (.int (4 : Int32)), .val (.int y0), .val (.int y1), .val (.int y2), .val (.int y3), .val (.int y4), .val (.ref b821), .val (.ref b826), .val (.ref b835), .val (.ref b848), .val (.ref b865), .val (.ref b1051), .val (.int (1 : Int32))] [(.int (own_all [y0, y1, y2, y3]))]))
              refine own_iload X1092 hx hby at_486 rfl rfl ?_
              refine own_icmp_ne X1092 hx hby at_488 (pcY := 495) (pcN := 491) (by decide) rfl (fun (hc1095 : ¬ (own_all [y0, y1, y2, y3]) = (1 : Int32)) => False.elim (by exact hc1095 (by rw [own_all1 hc1061, own_all1 hc1069, own_all1 hc1077, own_all1 hc1085]; rfl))) (fun (hc1095 : (own_all [y0, y1, y2, y3]) = (1 : Int32)) => ?_)
              refine own_iconst X1092 hx hby at_491 rfl (1 : Int32) rfl ?_
              refine own_goto X1092 hx hby at_492 (pc' := 496) (by decide) ?_
              have f1096 := (own_Rk (own_Re f885 E1051) K1057 (allS sf_b1051 all0))
              have f1097 := (Nat.le_trans (Nat.le_trans (Nat.le_trans (Nat.le_trans (Nat.le_trans (Nat.le_trans (Nat.le_trans (Nat.le_trans (Nat.le_trans (Nat.le_trans (Nat.le_trans (Nat.le_trans (Nat.le_trans (Nat.le_trans (Nat.le_trans (Nat.le_trans (Nat.le_trans (Nat.le_trans (Nat.le_trans (Nat.le_trans (Nat.le_trans (Nat.le_trans (Nat.le_refl _) E821.1) (Keep.of_wr W824).1) E826.1) (Keep.of_wr W830).1) (Keep.of_wr W833).1) E835.1) (Keep.of_wr W840).1) (Keep.of_wr W843).1) (Keep.of_wr W846).1) E848.1) (Keep.of_wr W854).1) (Keep.of_wr W857).1) (Keep.of_wr W860).1) (Keep.of_wr W863).1) E865.1) (Keep.of_wr W872).1) (Keep.of_wr W875).1) (Keep.of_wr W878).1) (Keep.of_wr W881).1) (Keep.of_wr W884).1) E1051.1) K1057.1)
              refine own_retH X1092 hx hby hret hlk at_496 (.int (1 : Int32)) rfl (Or.inl ⟨rfl, by simp, _, rfl⟩) hZ hEL (by rw [show T1092.heap = _ from e1092, show s.heap = _ from eh]; exact f1096) hS (by rw [show T1092.heap = _ from e1092]; exact f1097) (by decide) (by decide) ?_
              exact ⟨rfl, (Fr.app (Fr.app (Fr.app (Fr.app (Fr.app (Fr.app N884 N1057q) (Fr.nil _)) (Fr.nil _)) (Fr.nil _)) (Fr.nil _)) (Fr.nil _))⟩
    · -- wide
      show Ends p.tables e below _ (T1057.setTop (mkF m 282 #[.val (.int x0), .val (.int x1), .val (.int x2), .val (.int x3), .val (.int x4), .val (.int x5), .val (.int (4 : Int32)), .val (.int y0), .val (.int y1), .val (.int y2), .val (.int y3), .val (.int y4), .val (.ref b821), .val (.ref b826), .val (.ref b835), .val (.ref b848), .val (.ref b865), .unset, .unset] [(.ref b1051)]))
      refine own_astore X1057 hx hby at_282 rfl #[.val (.int x0), .val (.int x1), .val (.int x2), .val (.int x3), .val (.int x4), .val (.int x5), .val (.int (4 : Int32)), .val (.int y0), .val (.int y1), .val (.int y2), .val (.int y3), .val (.int y4), .val (.ref b821), .val (.ref b826), .val (.ref b835), .val (.ref b848), .val (.ref b865), .val (.ref b1051), .unset] rfl rfl ?_
      refine own_iload X1057 hx hby at_284 rfl rfl ?_
      refine own_static X1057 hx hby hZ (argsL := [(.int y0)]) (rest := []) hown (hw _ tw_43) (hw _ tw_44) (hw _ tw_45) (hw _ tw_46) (by decide) (rm9 l Z a0 hw y0 T1057.heap) rfl (by rw [hml]; rfl) pd_19 rfl (by decide) (W := 0) (Nat.le_refl _) (by decide) (by decide) (by decide) at_286 rfl rfl (fun v1098 T1098 L1098 X1098 hQ1098 => ?_)
      obtain ⟨rfl, rfl, e1098⟩ := hQ1098
      show Ends p.tables e below _ (T1098.setTop (mkF m 289 #[.val (.int x0), .val (.int x1), .val (.int x2), .val (.int x3), .val (.int x4), .val (.int x5), .val (.int (4 : Int32)), .val (.int y0), .val (.int y1), .val (.int y2), .val (.int y3), .val (.int y4), .val (.ref b821), .val (.ref b826), .val (.ref b835), .val (.ref b848), .val (.ref b865), .val (.ref b1051), .unset] [(.int (own_ok y0))]))
      refine own_if_eq X1098 hx hby at_289 (pcY := 320) (pcN := 292) (by decide) rfl (fun (hc1099 : (own_ok y0) = (0 : Int32)) => ?_) (fun (hc1099 : ¬ (own_ok y0) = (0 : Int32)) => ?_)
      · -- pc 289: t
        refine own_iconst X1098 hx hby at_320 rfl (0 : Int32) rfl ?_
        refine own_istore X1098 hx hby at_321 rfl #[.val (.int x0), .val (.int x1), .val (.int x2), .val (.int x3), .val (.int x4), .val (.int x5), .val (.int (4 : Int32)), .val (.int y0), .val (.int y1), .val (.int y2), .val (.int y3), .val (.int y4), .val (.ref b821), .val (.ref b826), .val (.ref b835), .val (.ref b848), .val (.ref b865), .val (.ref b1051), .val (.int (0 : Int32))] rfl ?_
        refine own_goto X1098 hx hby at_323 (pc' := 481) (by decide) ?_
        refine own_aload X1098 hx hby at_481 rfl rfl rfl ?_
        have f1101 := (f1058.keep K1057 (allS ge_b1051 all0))
        have f1102 := (A1051.keep K1057)
        refine own_static X1098 hx hby hZ (argsL := [(.ref b1051)]) (rest := []) hown (hw _ tw_10) (hw _ tw_11) (hw _ tw_12) (hw _ tw_13) (by decide) (rmv1_4 l Z a0 hw b1051 T1057.heap G (f1101).2 hr0 hr1 hr2 hr3 f1102 B1057 D1057 V1057) e1098 (by rw [hml]; rfl) pd_17 rfl (by decide) (W := 0) (Nat.le_refl _) (by decide) (by decide) (by decide) at_483 rfl rfl (fun v1100 T1100 L1100 X1100 hQ1100 => ?_)
        obtain ⟨rfl, rfl, e1100⟩ := hQ1100
        show Ends p.tables e below _ (T1100.setTop (mkF m 486 #[.val (.int x0), .val (.int x1), .val (.int x2), .val (.int x3), .val (.int x4), .val (.int x5), .val (.int (4 : Int32)), .val (.int y0), .val (.int y1), .val (.int y2), .val (.int y3), .val (.int y4), .val (.ref b821), .val (.ref b826), .val (.ref b835), .val (.ref b848), .val (.ref b865), .val (.ref b1051), .val (.int (0 : Int32))] [(.int (own_all [y0, y1, y2, y3]))]))
        refine own_iload X1100 hx hby at_486 rfl rfl ?_
        refine own_icmp_ne X1100 hx hby at_488 (pcY := 495) (pcN := 491) (by decide) rfl (fun (hc1103 : ¬ (own_all [y0, y1, y2, y3]) = (0 : Int32)) => False.elim (by exact hc1103 (by rw [own_all0 hc1099]))) (fun (hc1103 : (own_all [y0, y1, y2, y3]) = (0 : Int32)) => ?_)
        refine own_iconst X1100 hx hby at_491 rfl (1 : Int32) rfl ?_
        refine own_goto X1100 hx hby at_492 (pc' := 496) (by decide) ?_
        have f1104 := (own_Rk (own_Re f885 E1051) K1057 (allS sf_b1051 all0))
        have f1105 := (Nat.le_trans (Nat.le_trans (Nat.le_trans (Nat.le_trans (Nat.le_trans (Nat.le_trans (Nat.le_trans (Nat.le_trans (Nat.le_trans (Nat.le_trans (Nat.le_trans (Nat.le_trans (Nat.le_trans (Nat.le_trans (Nat.le_trans (Nat.le_trans (Nat.le_trans (Nat.le_trans (Nat.le_trans (Nat.le_trans (Nat.le_trans (Nat.le_trans (Nat.le_refl _) E821.1) (Keep.of_wr W824).1) E826.1) (Keep.of_wr W830).1) (Keep.of_wr W833).1) E835.1) (Keep.of_wr W840).1) (Keep.of_wr W843).1) (Keep.of_wr W846).1) E848.1) (Keep.of_wr W854).1) (Keep.of_wr W857).1) (Keep.of_wr W860).1) (Keep.of_wr W863).1) E865.1) (Keep.of_wr W872).1) (Keep.of_wr W875).1) (Keep.of_wr W878).1) (Keep.of_wr W881).1) (Keep.of_wr W884).1) E1051.1) K1057.1)
        refine own_retH X1100 hx hby hret hlk at_496 (.int (1 : Int32)) rfl (Or.inl ⟨rfl, by simp, _, rfl⟩) hZ hEL (by rw [show T1100.heap = _ from e1100, show s.heap = _ from eh]; exact f1104) hS (by rw [show T1100.heap = _ from e1100]; exact f1105) (by decide) (by decide) ?_
        exact ⟨rfl, (Fr.app (Fr.app (Fr.app N884 N1057q) (Fr.nil _)) (Fr.nil _))⟩
      · -- pc 289: f
        refine own_iload X1098 hx hby at_292 rfl rfl ?_
        refine own_static X1098 hx hby hZ (argsL := [(.int y1)]) (rest := []) hown (hw _ tw_43) (hw _ tw_44) (hw _ tw_45) (hw _ tw_46) (by decide) (rm9 l Z a0 hw y1 T1057.heap) e1098 (by rw [hml]; rfl) pd_19 rfl (by decide) (W := 0) (Nat.le_refl _) (by decide) (by decide) (by decide) at_294 rfl rfl (fun v1106 T1106 L1106 X1106 hQ1106 => ?_)
        obtain ⟨rfl, rfl, e1106⟩ := hQ1106
        show Ends p.tables e below _ (T1106.setTop (mkF m 297 #[.val (.int x0), .val (.int x1), .val (.int x2), .val (.int x3), .val (.int x4), .val (.int x5), .val (.int (4 : Int32)), .val (.int y0), .val (.int y1), .val (.int y2), .val (.int y3), .val (.int y4), .val (.ref b821), .val (.ref b826), .val (.ref b835), .val (.ref b848), .val (.ref b865), .val (.ref b1051), .unset] [(.int (own_ok y1))]))
        refine own_if_eq X1106 hx hby at_297 (pcY := 320) (pcN := 300) (by decide) rfl (fun (hc1107 : (own_ok y1) = (0 : Int32)) => ?_) (fun (hc1107 : ¬ (own_ok y1) = (0 : Int32)) => ?_)
        · -- pc 297: t
          refine own_iconst X1106 hx hby at_320 rfl (0 : Int32) rfl ?_
          refine own_istore X1106 hx hby at_321 rfl #[.val (.int x0), .val (.int x1), .val (.int x2), .val (.int x3), .val (.int x4), .val (.int x5), .val (.int (4 : Int32)), .val (.int y0), .val (.int y1), .val (.int y2), .val (.int y3), .val (.int y4), .val (.ref b821), .val (.ref b826), .val (.ref b835), .val (.ref b848), .val (.ref b865), .val (.ref b1051), .val (.int (0 : Int32))] rfl ?_
          refine own_goto X1106 hx hby at_323 (pc' := 481) (by decide) ?_
          refine own_aload X1106 hx hby at_481 rfl rfl rfl ?_
          have f1109 := (f1058.keep K1057 (allS ge_b1051 all0))
          have f1110 := (A1051.keep K1057)
          refine own_static X1106 hx hby hZ (argsL := [(.ref b1051)]) (rest := []) hown (hw _ tw_10) (hw _ tw_11) (hw _ tw_12) (hw _ tw_13) (by decide) (rmv1_4 l Z a0 hw b1051 T1057.heap G (f1109).2 hr0 hr1 hr2 hr3 f1110 B1057 D1057 V1057) e1106 (by rw [hml]; rfl) pd_17 rfl (by decide) (W := 0) (Nat.le_refl _) (by decide) (by decide) (by decide) at_483 rfl rfl (fun v1108 T1108 L1108 X1108 hQ1108 => ?_)
          obtain ⟨rfl, rfl, e1108⟩ := hQ1108
          show Ends p.tables e below _ (T1108.setTop (mkF m 486 #[.val (.int x0), .val (.int x1), .val (.int x2), .val (.int x3), .val (.int x4), .val (.int x5), .val (.int (4 : Int32)), .val (.int y0), .val (.int y1), .val (.int y2), .val (.int y3), .val (.int y4), .val (.ref b821), .val (.ref b826), .val (.ref b835), .val (.ref b848), .val (.ref b865), .val (.ref b1051), .val (.int (0 : Int32))] [(.int (own_all [y0, y1, y2, y3]))]))
          refine own_iload X1108 hx hby at_486 rfl rfl ?_
          refine own_icmp_ne X1108 hx hby at_488 (pcY := 495) (pcN := 491) (by decide) rfl (fun (hc1111 : ¬ (own_all [y0, y1, y2, y3]) = (0 : Int32)) => False.elim (by exact hc1111 (by rw [own_all1 hc1099, own_all0 hc1107]))) (fun (hc1111 : (own_all [y0, y1, y2, y3]) = (0 : Int32)) => ?_)
          refine own_iconst X1108 hx hby at_491 rfl (1 : Int32) rfl ?_
          refine own_goto X1108 hx hby at_492 (pc' := 496) (by decide) ?_
          have f1112 := (own_Rk (own_Re f885 E1051) K1057 (allS sf_b1051 all0))
          have f1113 := (Nat.le_trans (Nat.le_trans (Nat.le_trans (Nat.le_trans (Nat.le_trans (Nat.le_trans (Nat.le_trans (Nat.le_trans (Nat.le_trans (Nat.le_trans (Nat.le_trans (Nat.le_trans (Nat.le_trans (Nat.le_trans (Nat.le_trans (Nat.le_trans (Nat.le_trans (Nat.le_trans (Nat.le_trans (Nat.le_trans (Nat.le_trans (Nat.le_trans (Nat.le_refl _) E821.1) (Keep.of_wr W824).1) E826.1) (Keep.of_wr W830).1) (Keep.of_wr W833).1) E835.1) (Keep.of_wr W840).1) (Keep.of_wr W843).1) (Keep.of_wr W846).1) E848.1) (Keep.of_wr W854).1) (Keep.of_wr W857).1) (Keep.of_wr W860).1) (Keep.of_wr W863).1) E865.1) (Keep.of_wr W872).1) (Keep.of_wr W875).1) (Keep.of_wr W878).1) (Keep.of_wr W881).1) (Keep.of_wr W884).1) E1051.1) K1057.1)
          refine own_retH X1108 hx hby hret hlk at_496 (.int (1 : Int32)) rfl (Or.inl ⟨rfl, by simp, _, rfl⟩) hZ hEL (by rw [show T1108.heap = _ from e1108, show s.heap = _ from eh]; exact f1112) hS (by rw [show T1108.heap = _ from e1108]; exact f1113) (by decide) (by decide) ?_
          exact ⟨rfl, (Fr.app (Fr.app (Fr.app (Fr.app N884 N1057q) (Fr.nil _)) (Fr.nil _)) (Fr.nil _))⟩
        · -- pc 297: f
          refine own_iload X1106 hx hby at_300 rfl rfl ?_
          refine own_static X1106 hx hby hZ (argsL := [(.int y2)]) (rest := []) hown (hw _ tw_43) (hw _ tw_44) (hw _ tw_45) (hw _ tw_46) (by decide) (rm9 l Z a0 hw y2 T1057.heap) e1106 (by rw [hml]; rfl) pd_19 rfl (by decide) (W := 0) (Nat.le_refl _) (by decide) (by decide) (by decide) at_302 rfl rfl (fun v1114 T1114 L1114 X1114 hQ1114 => ?_)
          obtain ⟨rfl, rfl, e1114⟩ := hQ1114
          show Ends p.tables e below _ (T1114.setTop (mkF m 305 #[.val (.int x0), .val (.int x1), .val (.int x2), .val (.int x3), .val (.int x4), .val (.int x5), .val (.int (4 : Int32)), .val (.int y0), .val (.int y1), .val (.int y2), .val (.int y3), .val (.int y4), .val (.ref b821), .val (.ref b826), .val (.ref b835), .val (.ref b848), .val (.ref b865), .val (.ref b1051), .unset] [(.int (own_ok y2))]))
          refine own_if_eq X1114 hx hby at_305 (pcY := 320) (pcN := 308) (by decide) rfl (fun (hc1115 : (own_ok y2) = (0 : Int32)) => ?_) (fun (hc1115 : ¬ (own_ok y2) = (0 : Int32)) => ?_)
          · -- pc 305: t
            refine own_iconst X1114 hx hby at_320 rfl (0 : Int32) rfl ?_
            refine own_istore X1114 hx hby at_321 rfl #[.val (.int x0), .val (.int x1), .val (.int x2), .val (.int x3), .val (.int x4), .val (.int x5), .val (.int (4 : Int32)), .val (.int y0), .val (.int y1), .val (.int y2), .val (.int y3), .val (.int y4), .val (.ref b821), .val (.ref b826), .val (.ref b835), .val (.ref b848), .val (.ref b865), .val (.ref b1051), .val (.int (0 : Int32))] rfl ?_
            refine own_goto X1114 hx hby at_323 (pc' := 481) (by decide) ?_
            refine own_aload X1114 hx hby at_481 rfl rfl rfl ?_
            have f1117 := (f1058.keep K1057 (allS ge_b1051 all0))
            have f1118 := (A1051.keep K1057)
            refine own_static X1114 hx hby hZ (argsL := [(.ref b1051)]) (rest := []) hown (hw _ tw_10) (hw _ tw_11) (hw _ tw_12) (hw _ tw_13) (by decide) (rmv1_4 l Z a0 hw b1051 T1057.heap G (f1117).2 hr0 hr1 hr2 hr3 f1118 B1057 D1057 V1057) e1114 (by rw [hml]; rfl) pd_17 rfl (by decide) (W := 0) (Nat.le_refl _) (by decide) (by decide) (by decide) at_483 rfl rfl (fun v1116 T1116 L1116 X1116 hQ1116 => ?_)
            obtain ⟨rfl, rfl, e1116⟩ := hQ1116
            show Ends p.tables e below _ (T1116.setTop (mkF m 486 #[.val (.int x0), .val (.int x1), .val (.int x2), .val (.int x3), .val (.int x4), .val (.int x5), .val (.int (4 : Int32)), .val (.int y0), .val (.int y1), .val (.int y2), .val (.int y3), .val (.int y4), .val (.ref b821), .val (.ref b826), .val (.ref b835), .val (.ref b848), .val (.ref b865), .val (.ref b1051), .val (.int (0 : Int32))] [(.int (own_all [y0, y1, y2, y3]))]))
            refine own_iload X1116 hx hby at_486 rfl rfl ?_
            refine own_icmp_ne X1116 hx hby at_488 (pcY := 495) (pcN := 491) (by decide) rfl (fun (hc1119 : ¬ (own_all [y0, y1, y2, y3]) = (0 : Int32)) => False.elim (by exact hc1119 (by rw [own_all1 hc1099, own_all1 hc1107, own_all0 hc1115]))) (fun (hc1119 : (own_all [y0, y1, y2, y3]) = (0 : Int32)) => ?_)
            refine own_iconst X1116 hx hby at_491 rfl (1 : Int32) rfl ?_
            refine own_goto X1116 hx hby at_492 (pc' := 496) (by decide) ?_
            have f1120 := (own_Rk (own_Re f885 E1051) K1057 (allS sf_b1051 all0))
            have f1121 := (Nat.le_trans (Nat.le_trans (Nat.le_trans (Nat.le_trans (Nat.le_trans (Nat.le_trans (Nat.le_trans (Nat.le_trans (Nat.le_trans (Nat.le_trans (Nat.le_trans (Nat.le_trans (Nat.le_trans (Nat.le_trans (Nat.le_trans (Nat.le_trans (Nat.le_trans (Nat.le_trans (Nat.le_trans (Nat.le_trans (Nat.le_trans (Nat.le_trans (Nat.le_refl _) E821.1) (Keep.of_wr W824).1) E826.1) (Keep.of_wr W830).1) (Keep.of_wr W833).1) E835.1) (Keep.of_wr W840).1) (Keep.of_wr W843).1) (Keep.of_wr W846).1) E848.1) (Keep.of_wr W854).1) (Keep.of_wr W857).1) (Keep.of_wr W860).1) (Keep.of_wr W863).1) E865.1) (Keep.of_wr W872).1) (Keep.of_wr W875).1) (Keep.of_wr W878).1) (Keep.of_wr W881).1) (Keep.of_wr W884).1) E1051.1) K1057.1)
            refine own_retH X1116 hx hby hret hlk at_496 (.int (1 : Int32)) rfl (Or.inl ⟨rfl, by simp, _, rfl⟩) hZ hEL (by rw [show T1116.heap = _ from e1116, show s.heap = _ from eh]; exact f1120) hS (by rw [show T1116.heap = _ from e1116]; exact f1121) (by decide) (by decide) ?_
            exact ⟨rfl, (Fr.app (Fr.app (Fr.app (Fr.app (Fr.app N884 N1057q) (Fr.nil _)) (Fr.nil _)) (Fr.nil _)) (Fr.nil _))⟩
          · -- pc 305: f
            refine own_iload X1114 hx hby at_308 rfl rfl ?_
            refine own_static X1114 hx hby hZ (argsL := [(.int y3)]) (rest := []) hown (hw _ tw_43) (hw _ tw_44) (hw _ tw_45) (hw _ tw_46) (by decide) (rm9 l Z a0 hw y3 T1057.heap) e1114 (by rw [hml]; rfl) pd_19 rfl (by decide) (W := 0) (Nat.le_refl _) (by decide) (by decide) (by decide) at_310 rfl rfl (fun v1122 T1122 L1122 X1122 hQ1122 => ?_)
            obtain ⟨rfl, rfl, e1122⟩ := hQ1122
            show Ends p.tables e below _ (T1122.setTop (mkF m 313 #[.val (.int x0), .val (.int x1), .val (.int x2), .val (.int x3), .val (.int x4), .val (.int x5), .val (.int (4 : Int32)), .val (.int y0), .val (.int y1), .val (.int y2), .val (.int y3), .val (.int y4), .val (.ref b821), .val (.ref b826), .val (.ref b835), .val (.ref b848), .val (.ref b865), .val (.ref b1051), .unset] [(.int (own_ok y3))]))
            refine own_if_eq X1122 hx hby at_313 (pcY := 320) (pcN := 316) (by decide) rfl (fun (hc1123 : (own_ok y3) = (0 : Int32)) => ?_) (fun (hc1123 : ¬ (own_ok y3) = (0 : Int32)) => ?_)
            · -- pc 313: t
              refine own_iconst X1122 hx hby at_320 rfl (0 : Int32) rfl ?_
              refine own_istore X1122 hx hby at_321 rfl #[.val (.int x0), .val (.int x1), .val (.int x2), .val (.int x3), .val (.int x4), .val (.int x5), .val (.int (4 : Int32)), .val (.int y0), .val (.int y1), .val (.int y2), .val (.int y3), .val (.int y4), .val (.ref b821), .val (.ref b826), .val (.ref b835), .val (.ref b848), .val (.ref b865), .val (.ref b1051), .val (.int (0 : Int32))] rfl ?_
              refine own_goto X1122 hx hby at_323 (pc' := 481) (by decide) ?_
              refine own_aload X1122 hx hby at_481 rfl rfl rfl ?_
              have f1125 := (f1058.keep K1057 (allS ge_b1051 all0))
              have f1126 := (A1051.keep K1057)
              refine own_static X1122 hx hby hZ (argsL := [(.ref b1051)]) (rest := []) hown (hw _ tw_10) (hw _ tw_11) (hw _ tw_12) (hw _ tw_13) (by decide) (rmv1_4 l Z a0 hw b1051 T1057.heap G (f1125).2 hr0 hr1 hr2 hr3 f1126 B1057 D1057 V1057) e1122 (by rw [hml]; rfl) pd_17 rfl (by decide) (W := 0) (Nat.le_refl _) (by decide) (by decide) (by decide) at_483 rfl rfl (fun v1124 T1124 L1124 X1124 hQ1124 => ?_)
              obtain ⟨rfl, rfl, e1124⟩ := hQ1124
              show Ends p.tables e below _ (T1124.setTop (mkF m 486 #[.val (.int x0), .val (.int x1), .val (.int x2), .val (.int x3), .val (.int x4), .val (.int x5), .val (.int (4 : Int32)), .val (.int y0), .val (.int y1), .val (.int y2), .val (.int y3), .val (.int y4), .val (.ref b821), .val (.ref b826), .val (.ref b835), .val (.ref b848), .val (.ref b865), .val (.ref b1051), .val (.int (0 : Int32))] [(.int (own_all [y0, y1, y2, y3]))]))
              refine own_iload X1124 hx hby at_486 rfl rfl ?_
              refine own_icmp_ne X1124 hx hby at_488 (pcY := 495) (pcN := 491) (by decide) rfl (fun (hc1127 : ¬ (own_all [y0, y1, y2, y3]) = (0 : Int32)) => False.elim (by exact hc1127 (by rw [own_all1 hc1099, own_all1 hc1107, own_all1 hc1115, own_all0 hc1123]))) (fun (hc1127 : (own_all [y0, y1, y2, y3]) = (0 : Int32)) => ?_)
              refine own_iconst X1124 hx hby at_491 rfl (1 : Int32) rfl ?_
              refine own_goto X1124 hx hby at_492 (pc' := 496) (by decide) ?_
              have f1128 := (own_Rk (own_Re f885 E1051) K1057 (allS sf_b1051 all0))
              have f1129 := (Nat.le_trans (Nat.le_trans (Nat.le_trans (Nat.le_trans (Nat.le_trans (Nat.le_trans (Nat.le_trans (Nat.le_trans (Nat.le_trans (Nat.le_trans (Nat.le_trans (Nat.le_trans (Nat.le_trans (Nat.le_trans (Nat.le_trans (Nat.le_trans (Nat.le_trans (Nat.le_trans (Nat.le_trans (Nat.le_trans (Nat.le_trans (Nat.le_trans (Nat.le_refl _) E821.1) (Keep.of_wr W824).1) E826.1) (Keep.of_wr W830).1) (Keep.of_wr W833).1) E835.1) (Keep.of_wr W840).1) (Keep.of_wr W843).1) (Keep.of_wr W846).1) E848.1) (Keep.of_wr W854).1) (Keep.of_wr W857).1) (Keep.of_wr W860).1) (Keep.of_wr W863).1) E865.1) (Keep.of_wr W872).1) (Keep.of_wr W875).1) (Keep.of_wr W878).1) (Keep.of_wr W881).1) (Keep.of_wr W884).1) E1051.1) K1057.1)
              refine own_retH X1124 hx hby hret hlk at_496 (.int (1 : Int32)) rfl (Or.inl ⟨rfl, by simp, _, rfl⟩) hZ hEL (by rw [show T1124.heap = _ from e1124, show s.heap = _ from eh]; exact f1128) hS (by rw [show T1124.heap = _ from e1124]; exact f1129) (by decide) (by decide) ?_
              exact ⟨rfl, (Fr.app (Fr.app (Fr.app (Fr.app (Fr.app (Fr.app N884 N1057q) (Fr.nil _)) (Fr.nil _)) (Fr.nil _)) (Fr.nil _)) (Fr.nil _))⟩
            · -- pc 313: f
              refine own_iconst X1122 hx hby at_316 rfl (1 : Int32) rfl ?_
              refine own_goto X1122 hx hby at_317 (pc' := 321) (by decide) ?_
              refine own_istore X1122 hx hby at_321 rfl #[.val (.int x0), .val (.int x1), .val (.int x2), .val (.int x3), .val (.int x4), .val (.int x5), .val (.int (4 : Int32)), .val (.int y0), .val (.int y1), .val (.int y2), .val (.int y3), .val (.int y4), .val (.ref b821), .val (.ref b826), .val (.ref b835), .val (.ref b848), .val (.ref b865), .val (.ref b1051), .val (.int (1 : Int32))] rfl ?_
              refine own_goto X1122 hx hby at_323 (pc' := 481) (by decide) ?_
              refine own_aload X1122 hx hby at_481 rfl rfl rfl ?_
              have f1131 := (f1058.keep K1057 (allS ge_b1051 all0))
              have f1132 := (A1051.keep K1057)
              refine own_static X1122 hx hby hZ (argsL := [(.ref b1051)]) (rest := []) hown (hw _ tw_10) (hw _ tw_11) (hw _ tw_12) (hw _ tw_13) (by decide) (rmv1_4 l Z a0 hw b1051 T1057.heap G (f1131).2 hr0 hr1 hr2 hr3 f1132 B1057 D1057 V1057) e1122 (by rw [hml]; rfl) pd_17 rfl (by decide) (W := 0) (Nat.le_refl _) (by decide) (by decide) (by decide) at_483 rfl rfl (fun v1130 T1130 L1130 X1130 hQ1130 => ?_)
              obtain ⟨rfl, rfl, e1130⟩ := hQ1130
              show Ends p.tables e below _ (T1130.setTop (mkF m 486 #[.val (.int x0), .val (.int x1), .val (.int x2), .val (.int x3), .val (.int x4), .val (.int x5), .val (.int (4 : Int32)), .val (.int y0), .val (.int y1), .val (.int y2), .val (.int y3), .val (.int y4), .val (.ref b821), .val (.ref b826), .val (.ref b835), .val (.ref b848), .val (.ref b865), .val (.ref b1051), .val (.int (1 : Int32))] [(.int (own_all [y0, y1, y2, y3]))]))
              refine own_iload X1130 hx hby at_486 rfl rfl ?_
              refine own_icmp_ne X1130 hx hby at_488 (pcY := 495) (pcN := 491) (by decide) rfl (fun (hc1133 : ¬ (own_all [y0, y1, y2, y3]) = (1 : Int32)) => False.elim (by exact hc1133 (by rw [own_all1 hc1099, own_all1 hc1107, own_all1 hc1115, own_all1 hc1123]; rfl))) (fun (hc1133 : (own_all [y0, y1, y2, y3]) = (1 : Int32)) => ?_)
              refine own_iconst X1130 hx hby at_491 rfl (1 : Int32) rfl ?_
              refine own_goto X1130 hx hby at_492 (pc' := 496) (by decide) ?_
              have f1134 := (own_Rk (own_Re f885 E1051) K1057 (allS sf_b1051 all0))
              have f1135 := (Nat.le_trans (Nat.le_trans (Nat.le_trans (Nat.le_trans (Nat.le_trans (Nat.le_trans (Nat.le_trans (Nat.le_trans (Nat.le_trans (Nat.le_trans (Nat.le_trans (Nat.le_trans (Nat.le_trans (Nat.le_trans (Nat.le_trans (Nat.le_trans (Nat.le_trans (Nat.le_trans (Nat.le_trans (Nat.le_trans (Nat.le_trans (Nat.le_trans (Nat.le_refl _) E821.1) (Keep.of_wr W824).1) E826.1) (Keep.of_wr W830).1) (Keep.of_wr W833).1) E835.1) (Keep.of_wr W840).1) (Keep.of_wr W843).1) (Keep.of_wr W846).1) E848.1) (Keep.of_wr W854).1) (Keep.of_wr W857).1) (Keep.of_wr W860).1) (Keep.of_wr W863).1) E865.1) (Keep.of_wr W872).1) (Keep.of_wr W875).1) (Keep.of_wr W878).1) (Keep.of_wr W881).1) (Keep.of_wr W884).1) E1051.1) K1057.1)
              refine own_retH X1130 hx hby hret hlk at_496 (.int (1 : Int32)) rfl (Or.inl ⟨rfl, by simp, _, rfl⟩) hZ hEL (by rw [show T1130.heap = _ from e1130, show s.heap = _ from eh]; exact f1134) hS (by rw [show T1130.heap = _ from e1130]; exact f1135) (by decide) (by decide) ?_
              exact ⟨rfl, (Fr.app (Fr.app (Fr.app (Fr.app (Fr.app (Fr.app N884 N1057q) (Fr.nil _)) (Fr.nil _)) (Fr.nil _)) (Fr.nil _)) (Fr.nil _))⟩
  · -- 5
    rw [hz]
    show Ends p.tables e below _ (T884.setTop (mkF m 131 #[.val (.int x0), .val (.int x1), .val (.int x2), .val (.int x3), .val (.int x4), .val (.int x5), .val (.int (5 : Int32)), .val (.int y0), .val (.int y1), .val (.int y2), .val (.int y3), .val (.int y4), .val (.ref b821), .val (.ref b826), .val (.ref b835), .val (.ref b848), .val (.ref b865), .unset, .unset] []))
    refine own_iload X884 hx hby at_131 rfl rfl ?_
    refine own_if_ne X884 hx hby at_133 (pcY := 146) (pcN := 136) (by decide) rfl (fun (hc1136 : ¬ (5 : Int32) = (0 : Int32)) => ?_) (fun (hc1136 : (5 : Int32) = (0 : Int32)) => False.elim (by exact absurd hc1136 (by decide)))
    refine own_iload X884 hx hby at_146 rfl rfl ?_
    refine own_iconst X884 hx hby at_148 rfl (1 : Int32) rfl ?_
    refine own_icmp_ne X884 hx hby at_149 (pcY := 173) (pcN := 152) (by decide) rfl (fun (hc1137 : ¬ (5 : Int32) = (1 : Int32)) => ?_) (fun (hc1137 : (5 : Int32) = (1 : Int32)) => False.elim (by exact absurd hc1137 (by decide)))
    refine own_iload X884 hx hby at_173 rfl rfl ?_
    refine own_iconst X884 hx hby at_175 rfl (2 : Int32) rfl ?_
    refine own_icmp_ne X884 hx hby at_176 (pcY := 216) (pcN := 179) (by decide) rfl (fun (hc1138 : ¬ (5 : Int32) = (2 : Int32)) => ?_) (fun (hc1138 : (5 : Int32) = (2 : Int32)) => False.elim (by exact absurd hc1138 (by decide)))
    refine own_iload X884 hx hby at_216 rfl rfl ?_
    refine own_iconst X884 hx hby at_218 rfl (3 : Int32) rfl ?_
    refine own_icmp_ne X884 hx hby at_219 (pcY := 267) (pcN := 222) (by decide) rfl (fun (hc1139 : ¬ (5 : Int32) = (3 : Int32)) => ?_) (fun (hc1139 : (5 : Int32) = (3 : Int32)) => False.elim (by exact absurd hc1139 (by decide)))
    refine own_iload X884 hx hby at_267 rfl rfl ?_
    refine own_iconst X884 hx hby at_269 rfl (4 : Int32) rfl ?_
    refine own_icmp_ne X884 hx hby at_270 (pcY := 326) (pcN := 273) (by decide) rfl (fun (hc1140 : ¬ (5 : Int32) = (4 : Int32)) => ?_) (fun (hc1140 : (5 : Int32) = (4 : Int32)) => False.elim (by exact absurd hc1140 (by decide)))
    refine own_iload X884 hx hby at_326 rfl rfl ?_
    refine own_iconst X884 hx hby at_328 rfl (5 : Int32) rfl ?_
    refine own_icmp_ne X884 hx hby at_329 (pcY := 393) (pcN := 332) (by decide) rfl (fun (hc1141 : ¬ (5 : Int32) = (5 : Int32)) => False.elim (by exact absurd hc1141 (by decide))) (fun (hc1141 : (5 : Int32) = (5 : Int32)) => ?_)
    have f1143 := ((((((f866.ext E865).wr W872 ge_b865).wr W875 ge_b865).wr W878 ge_b865).wr W881 ge_b865).wr W884 ge_b865)
    refine own_new X884 hx hby hZ hown (hw _ tw_20) (hw _ tw_4) (hw _ tw_3) e884 (by decide) (by decide) at_332 rfl (fun T1142 h1142 b1142 X1142 e1142 g1142 E1142 A1142 D1142 => ?_)
    have ge_b1142 : n0 ≤ b1142 := own_ge f1143 g1142
    have ne_b865_b1142 : b865 ≠ b1142 := own_lt V884.lt g1142
    have f1144 := ((((((f867.ext E865).other W872 ne_b821_b865).other W875 ne_b821_b865).other W878 ne_b821_b865).other W881 ne_b821_b865).other W884 ne_b821_b865)
    have ne_b821_b1142 : b821 ≠ b1142 := own_lt f1144.lt g1142
    have f1145 := ((((((f868.ext E865).other W872 ne_b826_b865).other W875 ne_b826_b865).other W878 ne_b826_b865).other W881 ne_b826_b865).other W884 ne_b826_b865)
    have ne_b826_b1142 : b826 ≠ b1142 := own_lt f1145.lt g1142
    have f1146 := ((((((f869.ext E865).other W872 ne_b835_b865).other W875 ne_b835_b865).other W878 ne_b835_b865).other W881 ne_b835_b865).other W884 ne_b835_b865)
    have ne_b835_b1142 : b835 ≠ b1142 := own_lt f1146.lt g1142
    have f1147 := ((((((V863.ext E865).other W872 ne_b848_b865).other W875 ne_b848_b865).other W878 ne_b848_b865).other W881 ne_b848_b865).other W884 ne_b848_b865)
    have ne_b848_b1142 : b848 ≠ b1142 := own_lt f1147.lt g1142
    have F1142_value : Fld Z h1142 b1142 "java/lang/String" "value" "[B" .null := D1142 (Or.inr (hw _ tw_6)) (ty := (.array .byte)) (by decide)
    have F1142_coder : Fld Z h1142 b1142 "java/lang/String" "coder" "B" (.int (0 : Int32)) := D1142 (Or.inr (hw _ tw_7)) (ty := .byte) (by decide)
    have sf_b1142 := Safe.ext E1142 f885.1 (Safe.new (EL := consts_1) (Nat.le_of_eq g1142.symm))
    refine own_dup X1142 hx hby at_335 rfl rfl ?_
    refine own_aload X1142 hx hby at_336 rfl rfl rfl ?_
    have f1149 := (f1143.ext E1142)
    have f1150 := (V884.ext E1142)
    refine own_special X1142 hx hby hZ (a := b1142) (argsL := [(.ref b865)]) (rest := [(.ref b1142)]) hown rfl (hw _ tw_21) (hw _ tw_22) (hw _ tw_3) (hw _ tw_23) (by decide) (rmi1_5 l Z a0 hw b1142 b865 h1142 n0 G ge_b1142 A1142 F1142_coder F1142_value f1149 hr0 hr1 hr2 hr3 hr4 f1150) e1142 (by rw [hml]; rfl) pd_18 rfl (by decide) (W := 1) (Nat.le_refl _) (by decide) (by decide) (by decide) at_338 rfl rfl (fun v1148 T1148 L1148 X1148 hQ1148 => ?_)
    rcases hQ1148 with ⟨b1148, k1148, rfl, N1148q, K1148, D1148, (⟨al1148, B1148, V1148⟩ | ⟨B1148, V1148⟩)⟩
    · -- latin
      show Ends p.tables e below _ (T1148.setTop (mkF m 341 #[.val (.int x0), .val (.int x1), .val (.int x2), .val (.int x3), .val (.int x4), .val (.int x5), .val (.int (5 : Int32)), .val (.int y0), .val (.int y1), .val (.int y2), .val (.int y3), .val (.int y4), .val (.ref b821), .val (.ref b826), .val (.ref b835), .val (.ref b848), .val (.ref b865), .unset, .unset] [(.ref b1142)]))
      refine own_astore X1148 hx hby at_341 rfl #[.val (.int x0), .val (.int x1), .val (.int x2), .val (.int x3), .val (.int x4), .val (.int x5), .val (.int (5 : Int32)), .val (.int y0), .val (.int y1), .val (.int y2), .val (.int y3), .val (.int y4), .val (.ref b821), .val (.ref b826), .val (.ref b835), .val (.ref b848), .val (.ref b865), .val (.ref b1142), .unset] rfl rfl ?_
      refine own_iload X1148 hx hby at_343 rfl rfl ?_
      refine own_static X1148 hx hby hZ (argsL := [(.int y0)]) (rest := []) hown (hw _ tw_43) (hw _ tw_44) (hw _ tw_45) (hw _ tw_46) (by decide) (rm9 l Z a0 hw y0 T1148.heap) rfl (by rw [hml]; rfl) pd_19 rfl (by decide) (W := 0) (Nat.le_refl _) (by decide) (by decide) (by decide) at_345 rfl rfl (fun v1151 T1151 L1151 X1151 hQ1151 => ?_)
      obtain ⟨rfl, rfl, e1151⟩ := hQ1151
      show Ends p.tables e below _ (T1151.setTop (mkF m 348 #[.val (.int x0), .val (.int x1), .val (.int x2), .val (.int x3), .val (.int x4), .val (.int x5), .val (.int (5 : Int32)), .val (.int y0), .val (.int y1), .val (.int y2), .val (.int y3), .val (.int y4), .val (.ref b821), .val (.ref b826), .val (.ref b835), .val (.ref b848), .val (.ref b865), .val (.ref b1142), .unset] [(.int (own_ok y0))]))
      refine own_if_eq X1151 hx hby at_348 (pcY := 387) (pcN := 351) (by decide) rfl (fun (hc1152 : (own_ok y0) = (0 : Int32)) => ?_) (fun (hc1152 : ¬ (own_ok y0) = (0 : Int32)) => ?_)
      · -- pc 348: t
        refine own_iconst X1151 hx hby at_387 rfl (0 : Int32) rfl ?_
        refine own_istore X1151 hx hby at_388 rfl #[.val (.int x0), .val (.int x1), .val (.int x2), .val (.int x3), .val (.int x4), .val (.int x5), .val (.int (5 : Int32)), .val (.int y0), .val (.int y1), .val (.int y2), .val (.int y3), .val (.int y4), .val (.ref b821), .val (.ref b826), .val (.ref b835), .val (.ref b848), .val (.ref b865), .val (.ref b1142), .val (.int (0 : Int32))] rfl ?_
        refine own_goto X1151 hx hby at_390 (pc' := 481) (by decide) ?_
        refine own_aload X1151 hx hby at_481 rfl rfl rfl ?_
        have f1154 := (f1149.keep K1148 (allS ge_b1142 all0))
        have f1155 := (A1142.keep K1148)
        refine own_static X1151 hx hby hZ (argsL := [(.ref b1142)]) (rest := []) hown (hw _ tw_10) (hw _ tw_11) (hw _ tw_12) (hw _ tw_13) (by decide) (rmv0_5 l Z a0 hw b1142 T1148.heap G (f1154).2 ⟨hr0.1, by have q := al1148; omega⟩ ⟨hr1.1, by have q := al1148; omega⟩ ⟨hr2.1, by have q := al1148; omega⟩ ⟨hr3.1, by have q := al1148; omega⟩ ⟨hr4.1, by have q := al1148; omega⟩ f1155 B1148 D1148 V1148) e1151 (by rw [hml]; rfl) pd_17 rfl (by decide) (W := 0) (Nat.le_refl _) (by decide) (by decide) (by decide) at_483 rfl rfl (fun v1153 T1153 L1153 X1153 hQ1153 => ?_)
        obtain ⟨rfl, rfl, e1153⟩ := hQ1153
        show Ends p.tables e below _ (T1153.setTop (mkF m 486 #[.val (.int x0), .val (.int x1), .val (.int x2), .val (.int x3), .val (.int x4), .val (.int x5), .val (.int (5 : Int32)), .val (.int y0), .val (.int y1), .val (.int y2), .val (.int y3), .val (.int y4), .val (.ref b821), .val (.ref b826), .val (.ref b835), .val (.ref b848), .val (.ref b865), .val (.ref b1142), .val (.int (0 : Int32))] [(.int (own_all [y0, y1, y2, y3, y4]))]))
        refine own_iload X1153 hx hby at_486 rfl rfl ?_
        refine own_icmp_ne X1153 hx hby at_488 (pcY := 495) (pcN := 491) (by decide) rfl (fun (hc1156 : ¬ (own_all [y0, y1, y2, y3, y4]) = (0 : Int32)) => False.elim (by exact hc1156 (by rw [own_all0 hc1152]))) (fun (hc1156 : (own_all [y0, y1, y2, y3, y4]) = (0 : Int32)) => ?_)
        refine own_iconst X1153 hx hby at_491 rfl (1 : Int32) rfl ?_
        refine own_goto X1153 hx hby at_492 (pc' := 496) (by decide) ?_
        have f1157 := (own_Rk (own_Re f885 E1142) K1148 (allS sf_b1142 all0))
        have f1158 := (Nat.le_trans (Nat.le_trans (Nat.le_trans (Nat.le_trans (Nat.le_trans (Nat.le_trans (Nat.le_trans (Nat.le_trans (Nat.le_trans (Nat.le_trans (Nat.le_trans (Nat.le_trans (Nat.le_trans (Nat.le_trans (Nat.le_trans (Nat.le_trans (Nat.le_trans (Nat.le_trans (Nat.le_trans (Nat.le_trans (Nat.le_trans (Nat.le_trans (Nat.le_refl _) E821.1) (Keep.of_wr W824).1) E826.1) (Keep.of_wr W830).1) (Keep.of_wr W833).1) E835.1) (Keep.of_wr W840).1) (Keep.of_wr W843).1) (Keep.of_wr W846).1) E848.1) (Keep.of_wr W854).1) (Keep.of_wr W857).1) (Keep.of_wr W860).1) (Keep.of_wr W863).1) E865.1) (Keep.of_wr W872).1) (Keep.of_wr W875).1) (Keep.of_wr W878).1) (Keep.of_wr W881).1) (Keep.of_wr W884).1) E1142.1) K1148.1)
        refine own_retH X1153 hx hby hret hlk at_496 (.int (1 : Int32)) rfl (Or.inl ⟨rfl, by simp, _, rfl⟩) hZ hEL (by rw [show T1153.heap = _ from e1153, show s.heap = _ from eh]; exact f1157) hS (by rw [show T1153.heap = _ from e1153]; exact f1158) (by decide) (by decide) ?_
        exact ⟨rfl, (Fr.app (Fr.app (Fr.app N884 N1148q) (Fr.nil _)) (Fr.nil _))⟩
      · -- pc 348: f
        refine own_iload X1151 hx hby at_351 rfl rfl ?_
        refine own_static X1151 hx hby hZ (argsL := [(.int y1)]) (rest := []) hown (hw _ tw_43) (hw _ tw_44) (hw _ tw_45) (hw _ tw_46) (by decide) (rm9 l Z a0 hw y1 T1148.heap) e1151 (by rw [hml]; rfl) pd_19 rfl (by decide) (W := 0) (Nat.le_refl _) (by decide) (by decide) (by decide) at_353 rfl rfl (fun v1159 T1159 L1159 X1159 hQ1159 => ?_)
        obtain ⟨rfl, rfl, e1159⟩ := hQ1159
        show Ends p.tables e below _ (T1159.setTop (mkF m 356 #[.val (.int x0), .val (.int x1), .val (.int x2), .val (.int x3), .val (.int x4), .val (.int x5), .val (.int (5 : Int32)), .val (.int y0), .val (.int y1), .val (.int y2), .val (.int y3), .val (.int y4), .val (.ref b821), .val (.ref b826), .val (.ref b835), .val (.ref b848), .val (.ref b865), .val (.ref b1142), .unset] [(.int (own_ok y1))]))
        refine own_if_eq X1159 hx hby at_356 (pcY := 387) (pcN := 359) (by decide) rfl (fun (hc1160 : (own_ok y1) = (0 : Int32)) => ?_) (fun (hc1160 : ¬ (own_ok y1) = (0 : Int32)) => ?_)
        · -- pc 356: t
          refine own_iconst X1159 hx hby at_387 rfl (0 : Int32) rfl ?_
          refine own_istore X1159 hx hby at_388 rfl #[.val (.int x0), .val (.int x1), .val (.int x2), .val (.int x3), .val (.int x4), .val (.int x5), .val (.int (5 : Int32)), .val (.int y0), .val (.int y1), .val (.int y2), .val (.int y3), .val (.int y4), .val (.ref b821), .val (.ref b826), .val (.ref b835), .val (.ref b848), .val (.ref b865), .val (.ref b1142), .val (.int (0 : Int32))] rfl ?_
          refine own_goto X1159 hx hby at_390 (pc' := 481) (by decide) ?_
          refine own_aload X1159 hx hby at_481 rfl rfl rfl ?_
          have f1162 := (f1149.keep K1148 (allS ge_b1142 all0))
          have f1163 := (A1142.keep K1148)
          refine own_static X1159 hx hby hZ (argsL := [(.ref b1142)]) (rest := []) hown (hw _ tw_10) (hw _ tw_11) (hw _ tw_12) (hw _ tw_13) (by decide) (rmv0_5 l Z a0 hw b1142 T1148.heap G (f1162).2 ⟨hr0.1, by have q := al1148; omega⟩ ⟨hr1.1, by have q := al1148; omega⟩ ⟨hr2.1, by have q := al1148; omega⟩ ⟨hr3.1, by have q := al1148; omega⟩ ⟨hr4.1, by have q := al1148; omega⟩ f1163 B1148 D1148 V1148) e1159 (by rw [hml]; rfl) pd_17 rfl (by decide) (W := 0) (Nat.le_refl _) (by decide) (by decide) (by decide) at_483 rfl rfl (fun v1161 T1161 L1161 X1161 hQ1161 => ?_)
          obtain ⟨rfl, rfl, e1161⟩ := hQ1161
          show Ends p.tables e below _ (T1161.setTop (mkF m 486 #[.val (.int x0), .val (.int x1), .val (.int x2), .val (.int x3), .val (.int x4), .val (.int x5), .val (.int (5 : Int32)), .val (.int y0), .val (.int y1), .val (.int y2), .val (.int y3), .val (.int y4), .val (.ref b821), .val (.ref b826), .val (.ref b835), .val (.ref b848), .val (.ref b865), .val (.ref b1142), .val (.int (0 : Int32))] [(.int (own_all [y0, y1, y2, y3, y4]))]))
          refine own_iload X1161 hx hby at_486 rfl rfl ?_
          refine own_icmp_ne X1161 hx hby at_488 (pcY := 495) (pcN := 491) (by decide) rfl (fun (hc1164 : ¬ (own_all [y0, y1, y2, y3, y4]) = (0 : Int32)) => False.elim (by exact hc1164 (by rw [own_all1 hc1152, own_all0 hc1160]))) (fun (hc1164 : (own_all [y0, y1, y2, y3, y4]) = (0 : Int32)) => ?_)
          refine own_iconst X1161 hx hby at_491 rfl (1 : Int32) rfl ?_
          refine own_goto X1161 hx hby at_492 (pc' := 496) (by decide) ?_
          have f1165 := (own_Rk (own_Re f885 E1142) K1148 (allS sf_b1142 all0))
          have f1166 := (Nat.le_trans (Nat.le_trans (Nat.le_trans (Nat.le_trans (Nat.le_trans (Nat.le_trans (Nat.le_trans (Nat.le_trans (Nat.le_trans (Nat.le_trans (Nat.le_trans (Nat.le_trans (Nat.le_trans (Nat.le_trans (Nat.le_trans (Nat.le_trans (Nat.le_trans (Nat.le_trans (Nat.le_trans (Nat.le_trans (Nat.le_trans (Nat.le_trans (Nat.le_refl _) E821.1) (Keep.of_wr W824).1) E826.1) (Keep.of_wr W830).1) (Keep.of_wr W833).1) E835.1) (Keep.of_wr W840).1) (Keep.of_wr W843).1) (Keep.of_wr W846).1) E848.1) (Keep.of_wr W854).1) (Keep.of_wr W857).1) (Keep.of_wr W860).1) (Keep.of_wr W863).1) E865.1) (Keep.of_wr W872).1) (Keep.of_wr W875).1) (Keep.of_wr W878).1) (Keep.of_wr W881).1) (Keep.of_wr W884).1) E1142.1) K1148.1)
          refine own_retH X1161 hx hby hret hlk at_496 (.int (1 : Int32)) rfl (Or.inl ⟨rfl, by simp, _, rfl⟩) hZ hEL (by rw [show T1161.heap = _ from e1161, show s.heap = _ from eh]; exact f1165) hS (by rw [show T1161.heap = _ from e1161]; exact f1166) (by decide) (by decide) ?_
          exact ⟨rfl, (Fr.app (Fr.app (Fr.app (Fr.app N884 N1148q) (Fr.nil _)) (Fr.nil _)) (Fr.nil _))⟩
        · -- pc 356: f
          refine own_iload X1159 hx hby at_359 rfl rfl ?_
          refine own_static X1159 hx hby hZ (argsL := [(.int y2)]) (rest := []) hown (hw _ tw_43) (hw _ tw_44) (hw _ tw_45) (hw _ tw_46) (by decide) (rm9 l Z a0 hw y2 T1148.heap) e1159 (by rw [hml]; rfl) pd_19 rfl (by decide) (W := 0) (Nat.le_refl _) (by decide) (by decide) (by decide) at_361 rfl rfl (fun v1167 T1167 L1167 X1167 hQ1167 => ?_)
          obtain ⟨rfl, rfl, e1167⟩ := hQ1167
          show Ends p.tables e below _ (T1167.setTop (mkF m 364 #[.val (.int x0), .val (.int x1), .val (.int x2), .val (.int x3), .val (.int x4), .val (.int x5), .val (.int (5 : Int32)), .val (.int y0), .val (.int y1), .val (.int y2), .val (.int y3), .val (.int y4), .val (.ref b821), .val (.ref b826), .val (.ref b835), .val (.ref b848), .val (.ref b865), .val (.ref b1142), .unset] [(.int (own_ok y2))]))
          refine own_if_eq X1167 hx hby at_364 (pcY := 387) (pcN := 367) (by decide) rfl (fun (hc1168 : (own_ok y2) = (0 : Int32)) => ?_) (fun (hc1168 : ¬ (own_ok y2) = (0 : Int32)) => ?_)
          · -- pc 364: t
            refine own_iconst X1167 hx hby at_387 rfl (0 : Int32) rfl ?_
            refine own_istore X1167 hx hby at_388 rfl #[.val (.int x0), .val (.int x1), .val (.int x2), .val (.int x3), .val (.int x4), .val (.int x5), .val (.int (5 : Int32)), .val (.int y0), .val (.int y1), .val (.int y2), .val (.int y3), .val (.int y4), .val (.ref b821), .val (.ref b826), .val (.ref b835), .val (.ref b848), .val (.ref b865), .val (.ref b1142), .val (.int (0 : Int32))] rfl ?_
            refine own_goto X1167 hx hby at_390 (pc' := 481) (by decide) ?_
            refine own_aload X1167 hx hby at_481 rfl rfl rfl ?_
            have f1170 := (f1149.keep K1148 (allS ge_b1142 all0))
            have f1171 := (A1142.keep K1148)
            refine own_static X1167 hx hby hZ (argsL := [(.ref b1142)]) (rest := []) hown (hw _ tw_10) (hw _ tw_11) (hw _ tw_12) (hw _ tw_13) (by decide) (rmv0_5 l Z a0 hw b1142 T1148.heap G (f1170).2 ⟨hr0.1, by have q := al1148; omega⟩ ⟨hr1.1, by have q := al1148; omega⟩ ⟨hr2.1, by have q := al1148; omega⟩ ⟨hr3.1, by have q := al1148; omega⟩ ⟨hr4.1, by have q := al1148; omega⟩ f1171 B1148 D1148 V1148) e1167 (by rw [hml]; rfl) pd_17 rfl (by decide) (W := 0) (Nat.le_refl _) (by decide) (by decide) (by decide) at_483 rfl rfl (fun v1169 T1169 L1169 X1169 hQ1169 => ?_)
            obtain ⟨rfl, rfl, e1169⟩ := hQ1169
            show Ends p.tables e below _ (T1169.setTop (mkF m 486 #[.val (.int x0), .val (.int x1), .val (.int x2), .val (.int x3), .val (.int x4), .val (.int x5), .val (.int (5 : Int32)), .val (.int y0), .val (.int y1), .val (.int y2), .val (.int y3), .val (.int y4), .val (.ref b821), .val (.ref b826), .val (.ref b835), .val (.ref b848), .val (.ref b865), .val (.ref b1142), .val (.int (0 : Int32))] [(.int (own_all [y0, y1, y2, y3, y4]))]))
            refine own_iload X1169 hx hby at_486 rfl rfl ?_
            refine own_icmp_ne X1169 hx hby at_488 (pcY := 495) (pcN := 491) (by decide) rfl (fun (hc1172 : ¬ (own_all [y0, y1, y2, y3, y4]) = (0 : Int32)) => False.elim (by exact hc1172 (by rw [own_all1 hc1152, own_all1 hc1160, own_all0 hc1168]))) (fun (hc1172 : (own_all [y0, y1, y2, y3, y4]) = (0 : Int32)) => ?_)
            refine own_iconst X1169 hx hby at_491 rfl (1 : Int32) rfl ?_
            refine own_goto X1169 hx hby at_492 (pc' := 496) (by decide) ?_
            have f1173 := (own_Rk (own_Re f885 E1142) K1148 (allS sf_b1142 all0))
            have f1174 := (Nat.le_trans (Nat.le_trans (Nat.le_trans (Nat.le_trans (Nat.le_trans (Nat.le_trans (Nat.le_trans (Nat.le_trans (Nat.le_trans (Nat.le_trans (Nat.le_trans (Nat.le_trans (Nat.le_trans (Nat.le_trans (Nat.le_trans (Nat.le_trans (Nat.le_trans (Nat.le_trans (Nat.le_trans (Nat.le_trans (Nat.le_trans (Nat.le_trans (Nat.le_refl _) E821.1) (Keep.of_wr W824).1) E826.1) (Keep.of_wr W830).1) (Keep.of_wr W833).1) E835.1) (Keep.of_wr W840).1) (Keep.of_wr W843).1) (Keep.of_wr W846).1) E848.1) (Keep.of_wr W854).1) (Keep.of_wr W857).1) (Keep.of_wr W860).1) (Keep.of_wr W863).1) E865.1) (Keep.of_wr W872).1) (Keep.of_wr W875).1) (Keep.of_wr W878).1) (Keep.of_wr W881).1) (Keep.of_wr W884).1) E1142.1) K1148.1)
            refine own_retH X1169 hx hby hret hlk at_496 (.int (1 : Int32)) rfl (Or.inl ⟨rfl, by simp, _, rfl⟩) hZ hEL (by rw [show T1169.heap = _ from e1169, show s.heap = _ from eh]; exact f1173) hS (by rw [show T1169.heap = _ from e1169]; exact f1174) (by decide) (by decide) ?_
            exact ⟨rfl, (Fr.app (Fr.app (Fr.app (Fr.app (Fr.app N884 N1148q) (Fr.nil _)) (Fr.nil _)) (Fr.nil _)) (Fr.nil _))⟩
          · -- pc 364: f
            refine own_iload X1167 hx hby at_367 rfl rfl ?_
            refine own_static X1167 hx hby hZ (argsL := [(.int y3)]) (rest := []) hown (hw _ tw_43) (hw _ tw_44) (hw _ tw_45) (hw _ tw_46) (by decide) (rm9 l Z a0 hw y3 T1148.heap) e1167 (by rw [hml]; rfl) pd_19 rfl (by decide) (W := 0) (Nat.le_refl _) (by decide) (by decide) (by decide) at_369 rfl rfl (fun v1175 T1175 L1175 X1175 hQ1175 => ?_)
            obtain ⟨rfl, rfl, e1175⟩ := hQ1175
            show Ends p.tables e below _ (T1175.setTop (mkF m 372 #[.val (.int x0), .val (.int x1), .val (.int x2), .val (.int x3), .val (.int x4), .val (.int x5), .val (.int (5 : Int32)), .val (.int y0), .val (.int y1), .val (.int y2), .val (.int y3), .val (.int y4), .val (.ref b821), .val (.ref b826), .val (.ref b835), .val (.ref b848), .val (.ref b865), .val (.ref b1142), .unset] [(.int (own_ok y3))]))
            refine own_if_eq X1175 hx hby at_372 (pcY := 387) (pcN := 375) (by decide) rfl (fun (hc1176 : (own_ok y3) = (0 : Int32)) => ?_) (fun (hc1176 : ¬ (own_ok y3) = (0 : Int32)) => ?_)
            · -- pc 372: t
              refine own_iconst X1175 hx hby at_387 rfl (0 : Int32) rfl ?_
              refine own_istore X1175 hx hby at_388 rfl #[.val (.int x0), .val (.int x1), .val (.int x2), .val (.int x3), .val (.int x4), .val (.int x5), .val (.int (5 : Int32)), .val (.int y0), .val (.int y1), .val (.int y2), .val (.int y3), .val (.int y4), .val (.ref b821), .val (.ref b826), .val (.ref b835), .val (.ref b848), .val (.ref b865), .val (.ref b1142), .val (.int (0 : Int32))] rfl ?_
              refine own_goto X1175 hx hby at_390 (pc' := 481) (by decide) ?_
              refine own_aload X1175 hx hby at_481 rfl rfl rfl ?_
              have f1178 := (f1149.keep K1148 (allS ge_b1142 all0))
              have f1179 := (A1142.keep K1148)
              refine own_static X1175 hx hby hZ (argsL := [(.ref b1142)]) (rest := []) hown (hw _ tw_10) (hw _ tw_11) (hw _ tw_12) (hw _ tw_13) (by decide) (rmv0_5 l Z a0 hw b1142 T1148.heap G (f1178).2 ⟨hr0.1, by have q := al1148; omega⟩ ⟨hr1.1, by have q := al1148; omega⟩ ⟨hr2.1, by have q := al1148; omega⟩ ⟨hr3.1, by have q := al1148; omega⟩ ⟨hr4.1, by have q := al1148; omega⟩ f1179 B1148 D1148 V1148) e1175 (by rw [hml]; rfl) pd_17 rfl (by decide) (W := 0) (Nat.le_refl _) (by decide) (by decide) (by decide) at_483 rfl rfl (fun v1177 T1177 L1177 X1177 hQ1177 => ?_)
              obtain ⟨rfl, rfl, e1177⟩ := hQ1177
              show Ends p.tables e below _ (T1177.setTop (mkF m 486 #[.val (.int x0), .val (.int x1), .val (.int x2), .val (.int x3), .val (.int x4), .val (.int x5), .val (.int (5 : Int32)), .val (.int y0), .val (.int y1), .val (.int y2), .val (.int y3), .val (.int y4), .val (.ref b821), .val (.ref b826), .val (.ref b835), .val (.ref b848), .val (.ref b865), .val (.ref b1142), .val (.int (0 : Int32))] [(.int (own_all [y0, y1, y2, y3, y4]))]))
              refine own_iload X1177 hx hby at_486 rfl rfl ?_
              refine own_icmp_ne X1177 hx hby at_488 (pcY := 495) (pcN := 491) (by decide) rfl (fun (hc1180 : ¬ (own_all [y0, y1, y2, y3, y4]) = (0 : Int32)) => False.elim (by exact hc1180 (by rw [own_all1 hc1152, own_all1 hc1160, own_all1 hc1168, own_all0 hc1176]))) (fun (hc1180 : (own_all [y0, y1, y2, y3, y4]) = (0 : Int32)) => ?_)
              refine own_iconst X1177 hx hby at_491 rfl (1 : Int32) rfl ?_
              refine own_goto X1177 hx hby at_492 (pc' := 496) (by decide) ?_
              have f1181 := (own_Rk (own_Re f885 E1142) K1148 (allS sf_b1142 all0))
              have f1182 := (Nat.le_trans (Nat.le_trans (Nat.le_trans (Nat.le_trans (Nat.le_trans (Nat.le_trans (Nat.le_trans (Nat.le_trans (Nat.le_trans (Nat.le_trans (Nat.le_trans (Nat.le_trans (Nat.le_trans (Nat.le_trans (Nat.le_trans (Nat.le_trans (Nat.le_trans (Nat.le_trans (Nat.le_trans (Nat.le_trans (Nat.le_trans (Nat.le_trans (Nat.le_refl _) E821.1) (Keep.of_wr W824).1) E826.1) (Keep.of_wr W830).1) (Keep.of_wr W833).1) E835.1) (Keep.of_wr W840).1) (Keep.of_wr W843).1) (Keep.of_wr W846).1) E848.1) (Keep.of_wr W854).1) (Keep.of_wr W857).1) (Keep.of_wr W860).1) (Keep.of_wr W863).1) E865.1) (Keep.of_wr W872).1) (Keep.of_wr W875).1) (Keep.of_wr W878).1) (Keep.of_wr W881).1) (Keep.of_wr W884).1) E1142.1) K1148.1)
              refine own_retH X1177 hx hby hret hlk at_496 (.int (1 : Int32)) rfl (Or.inl ⟨rfl, by simp, _, rfl⟩) hZ hEL (by rw [show T1177.heap = _ from e1177, show s.heap = _ from eh]; exact f1181) hS (by rw [show T1177.heap = _ from e1177]; exact f1182) (by decide) (by decide) ?_
              exact ⟨rfl, (Fr.app (Fr.app (Fr.app (Fr.app (Fr.app (Fr.app N884 N1148q) (Fr.nil _)) (Fr.nil _)) (Fr.nil _)) (Fr.nil _)) (Fr.nil _))⟩
            · -- pc 372: f
              refine own_iload X1175 hx hby at_375 rfl rfl ?_
              refine own_static X1175 hx hby hZ (argsL := [(.int y4)]) (rest := []) hown (hw _ tw_43) (hw _ tw_44) (hw _ tw_45) (hw _ tw_46) (by decide) (rm9 l Z a0 hw y4 T1148.heap) e1175 (by rw [hml]; rfl) pd_19 rfl (by decide) (W := 0) (Nat.le_refl _) (by decide) (by decide) (by decide) at_377 rfl rfl (fun v1183 T1183 L1183 X1183 hQ1183 => ?_)
              obtain ⟨rfl, rfl, e1183⟩ := hQ1183
              show Ends p.tables e below _ (T1183.setTop (mkF m 380 #[.val (.int x0), .val (.int x1), .val (.int x2), .val (.int x3), .val (.int x4), .val (.int x5), .val (.int (5 : Int32)), .val (.int y0), .val (.int y1), .val (.int y2), .val (.int y3), .val (.int y4), .val (.ref b821), .val (.ref b826), .val (.ref b835), .val (.ref b848), .val (.ref b865), .val (.ref b1142), .unset] [(.int (own_ok y4))]))
              refine own_if_eq X1183 hx hby at_380 (pcY := 387) (pcN := 383) (by decide) rfl (fun (hc1184 : (own_ok y4) = (0 : Int32)) => ?_) (fun (hc1184 : ¬ (own_ok y4) = (0 : Int32)) => ?_)
              · -- pc 380: t
                refine own_iconst X1183 hx hby at_387 rfl (0 : Int32) rfl ?_
                refine own_istore X1183 hx hby at_388 rfl #[.val (.int x0), .val (.int x1), .val (.int x2), .val (.int x3), .val (.int x4), .val (.int x5), .val (.int (5 : Int32)), .val (.int y0), .val (.int y1), .val (.int y2), .val (.int y3), .val (.int y4), .val (.ref b821), .val (.ref b826), .val (.ref b835), .val (.ref b848), .val (.ref b865), .val (.ref b1142), .val (.int (0 : Int32))] rfl ?_
                refine own_goto X1183 hx hby at_390 (pc' := 481) (by decide) ?_
                refine own_aload X1183 hx hby at_481 rfl rfl rfl ?_
                have f1186 := (f1149.keep K1148 (allS ge_b1142 all0))
                have f1187 := (A1142.keep K1148)
                refine own_static X1183 hx hby hZ (argsL := [(.ref b1142)]) (rest := []) hown (hw _ tw_10) (hw _ tw_11) (hw _ tw_12) (hw _ tw_13) (by decide) (rmv0_5 l Z a0 hw b1142 T1148.heap G (f1186).2 ⟨hr0.1, by have q := al1148; omega⟩ ⟨hr1.1, by have q := al1148; omega⟩ ⟨hr2.1, by have q := al1148; omega⟩ ⟨hr3.1, by have q := al1148; omega⟩ ⟨hr4.1, by have q := al1148; omega⟩ f1187 B1148 D1148 V1148) e1183 (by rw [hml]; rfl) pd_17 rfl (by decide) (W := 0) (Nat.le_refl _) (by decide) (by decide) (by decide) at_483 rfl rfl (fun v1185 T1185 L1185 X1185 hQ1185 => ?_)
                obtain ⟨rfl, rfl, e1185⟩ := hQ1185
                show Ends p.tables e below _ (T1185.setTop (mkF m 486 #[.val (.int x0), .val (.int x1), .val (.int x2), .val (.int x3), .val (.int x4), .val (.int x5), .val (.int (5 : Int32)), .val (.int y0), .val (.int y1), .val (.int y2), .val (.int y3), .val (.int y4), .val (.ref b821), .val (.ref b826), .val (.ref b835), .val (.ref b848), .val (.ref b865), .val (.ref b1142), .val (.int (0 : Int32))] [(.int (own_all [y0, y1, y2, y3, y4]))]))
                refine own_iload X1185 hx hby at_486 rfl rfl ?_
                refine own_icmp_ne X1185 hx hby at_488 (pcY := 495) (pcN := 491) (by decide) rfl (fun (hc1188 : ¬ (own_all [y0, y1, y2, y3, y4]) = (0 : Int32)) => False.elim (by exact hc1188 (by rw [own_all1 hc1152, own_all1 hc1160, own_all1 hc1168, own_all1 hc1176, own_all0 hc1184]))) (fun (hc1188 : (own_all [y0, y1, y2, y3, y4]) = (0 : Int32)) => ?_)
                refine own_iconst X1185 hx hby at_491 rfl (1 : Int32) rfl ?_
                refine own_goto X1185 hx hby at_492 (pc' := 496) (by decide) ?_
                have f1189 := (own_Rk (own_Re f885 E1142) K1148 (allS sf_b1142 all0))
                have f1190 := (Nat.le_trans (Nat.le_trans (Nat.le_trans (Nat.le_trans (Nat.le_trans (Nat.le_trans (Nat.le_trans (Nat.le_trans (Nat.le_trans (Nat.le_trans (Nat.le_trans (Nat.le_trans (Nat.le_trans (Nat.le_trans (Nat.le_trans (Nat.le_trans (Nat.le_trans (Nat.le_trans (Nat.le_trans (Nat.le_trans (Nat.le_trans (Nat.le_trans (Nat.le_refl _) E821.1) (Keep.of_wr W824).1) E826.1) (Keep.of_wr W830).1) (Keep.of_wr W833).1) E835.1) (Keep.of_wr W840).1) (Keep.of_wr W843).1) (Keep.of_wr W846).1) E848.1) (Keep.of_wr W854).1) (Keep.of_wr W857).1) (Keep.of_wr W860).1) (Keep.of_wr W863).1) E865.1) (Keep.of_wr W872).1) (Keep.of_wr W875).1) (Keep.of_wr W878).1) (Keep.of_wr W881).1) (Keep.of_wr W884).1) E1142.1) K1148.1)
                refine own_retH X1185 hx hby hret hlk at_496 (.int (1 : Int32)) rfl (Or.inl ⟨rfl, by simp, _, rfl⟩) hZ hEL (by rw [show T1185.heap = _ from e1185, show s.heap = _ from eh]; exact f1189) hS (by rw [show T1185.heap = _ from e1185]; exact f1190) (by decide) (by decide) ?_
                exact ⟨rfl, (Fr.app (Fr.app (Fr.app (Fr.app (Fr.app (Fr.app (Fr.app N884 N1148q) (Fr.nil _)) (Fr.nil _)) (Fr.nil _)) (Fr.nil _)) (Fr.nil _)) (Fr.nil _))⟩
              · -- pc 380: f
                refine own_iconst X1183 hx hby at_383 rfl (1 : Int32) rfl ?_
                refine own_goto X1183 hx hby at_384 (pc' := 388) (by decide) ?_
                refine own_istore X1183 hx hby at_388 rfl #[.val (.int x0), .val (.int x1), .val (.int x2), .val (.int x3), .val (.int x4), .val (.int x5), .val (.int (5 : Int32)), .val (.int y0), .val (.int y1), .val (.int y2), .val (.int y3), .val (.int y4), .val (.ref b821), .val (.ref b826), .val (.ref b835), .val (.ref b848), .val (.ref b865), .val (.ref b1142), .val (.int (1 : Int32))] rfl ?_
                refine own_goto X1183 hx hby at_390 (pc' := 481) (by decide) ?_
                refine own_aload X1183 hx hby at_481 rfl rfl rfl ?_
                have f1192 := (f1149.keep K1148 (allS ge_b1142 all0))
                have f1193 := (A1142.keep K1148)
                refine own_static X1183 hx hby hZ (argsL := [(.ref b1142)]) (rest := []) hown (hw _ tw_10) (hw _ tw_11) (hw _ tw_12) (hw _ tw_13) (by decide) (rmv0_5 l Z a0 hw b1142 T1148.heap G (f1192).2 ⟨hr0.1, by have q := al1148; omega⟩ ⟨hr1.1, by have q := al1148; omega⟩ ⟨hr2.1, by have q := al1148; omega⟩ ⟨hr3.1, by have q := al1148; omega⟩ ⟨hr4.1, by have q := al1148; omega⟩ f1193 B1148 D1148 V1148) e1183 (by rw [hml]; rfl) pd_17 rfl (by decide) (W := 0) (Nat.le_refl _) (by decide) (by decide) (by decide) at_483 rfl rfl (fun v1191 T1191 L1191 X1191 hQ1191 => ?_)
                obtain ⟨rfl, rfl, e1191⟩ := hQ1191
                show Ends p.tables e below _ (T1191.setTop (mkF m 486 #[.val (.int x0), .val (.int x1), .val (.int x2), .val (.int x3), .val (.int x4), .val (.int x5), .val (.int (5 : Int32)), .val (.int y0), .val (.int y1), .val (.int y2), .val (.int y3), .val (.int y4), .val (.ref b821), .val (.ref b826), .val (.ref b835), .val (.ref b848), .val (.ref b865), .val (.ref b1142), .val (.int (1 : Int32))] [(.int (own_all [y0, y1, y2, y3, y4]))]))
                refine own_iload X1191 hx hby at_486 rfl rfl ?_
                refine own_icmp_ne X1191 hx hby at_488 (pcY := 495) (pcN := 491) (by decide) rfl (fun (hc1194 : ¬ (own_all [y0, y1, y2, y3, y4]) = (1 : Int32)) => False.elim (by exact hc1194 (by rw [own_all1 hc1152, own_all1 hc1160, own_all1 hc1168, own_all1 hc1176, own_all1 hc1184]; rfl))) (fun (hc1194 : (own_all [y0, y1, y2, y3, y4]) = (1 : Int32)) => ?_)
                refine own_iconst X1191 hx hby at_491 rfl (1 : Int32) rfl ?_
                refine own_goto X1191 hx hby at_492 (pc' := 496) (by decide) ?_
                have f1195 := (own_Rk (own_Re f885 E1142) K1148 (allS sf_b1142 all0))
                have f1196 := (Nat.le_trans (Nat.le_trans (Nat.le_trans (Nat.le_trans (Nat.le_trans (Nat.le_trans (Nat.le_trans (Nat.le_trans (Nat.le_trans (Nat.le_trans (Nat.le_trans (Nat.le_trans (Nat.le_trans (Nat.le_trans (Nat.le_trans (Nat.le_trans (Nat.le_trans (Nat.le_trans (Nat.le_trans (Nat.le_trans (Nat.le_trans (Nat.le_trans (Nat.le_refl _) E821.1) (Keep.of_wr W824).1) E826.1) (Keep.of_wr W830).1) (Keep.of_wr W833).1) E835.1) (Keep.of_wr W840).1) (Keep.of_wr W843).1) (Keep.of_wr W846).1) E848.1) (Keep.of_wr W854).1) (Keep.of_wr W857).1) (Keep.of_wr W860).1) (Keep.of_wr W863).1) E865.1) (Keep.of_wr W872).1) (Keep.of_wr W875).1) (Keep.of_wr W878).1) (Keep.of_wr W881).1) (Keep.of_wr W884).1) E1142.1) K1148.1)
                refine own_retH X1191 hx hby hret hlk at_496 (.int (1 : Int32)) rfl (Or.inl ⟨rfl, by simp, _, rfl⟩) hZ hEL (by rw [show T1191.heap = _ from e1191, show s.heap = _ from eh]; exact f1195) hS (by rw [show T1191.heap = _ from e1191]; exact f1196) (by decide) (by decide) ?_
                exact ⟨rfl, (Fr.app (Fr.app (Fr.app (Fr.app (Fr.app (Fr.app (Fr.app N884 N1148q) (Fr.nil _)) (Fr.nil _)) (Fr.nil _)) (Fr.nil _)) (Fr.nil _)) (Fr.nil _))⟩
    · -- wide
      show Ends p.tables e below _ (T1148.setTop (mkF m 341 #[.val (.int x0), .val (.int x1), .val (.int x2), .val (.int x3), .val (.int x4), .val (.int x5), .val (.int (5 : Int32)), .val (.int y0), .val (.int y1), .val (.int y2), .val (.int y3), .val (.int y4), .val (.ref b821), .val (.ref b826), .val (.ref b835), .val (.ref b848), .val (.ref b865), .unset, .unset] [(.ref b1142)]))
      refine own_astore X1148 hx hby at_341 rfl #[.val (.int x0), .val (.int x1), .val (.int x2), .val (.int x3), .val (.int x4), .val (.int x5), .val (.int (5 : Int32)), .val (.int y0), .val (.int y1), .val (.int y2), .val (.int y3), .val (.int y4), .val (.ref b821), .val (.ref b826), .val (.ref b835), .val (.ref b848), .val (.ref b865), .val (.ref b1142), .unset] rfl rfl ?_
      refine own_iload X1148 hx hby at_343 rfl rfl ?_
      refine own_static X1148 hx hby hZ (argsL := [(.int y0)]) (rest := []) hown (hw _ tw_43) (hw _ tw_44) (hw _ tw_45) (hw _ tw_46) (by decide) (rm9 l Z a0 hw y0 T1148.heap) rfl (by rw [hml]; rfl) pd_19 rfl (by decide) (W := 0) (Nat.le_refl _) (by decide) (by decide) (by decide) at_345 rfl rfl (fun v1197 T1197 L1197 X1197 hQ1197 => ?_)
      obtain ⟨rfl, rfl, e1197⟩ := hQ1197
      show Ends p.tables e below _ (T1197.setTop (mkF m 348 #[.val (.int x0), .val (.int x1), .val (.int x2), .val (.int x3), .val (.int x4), .val (.int x5), .val (.int (5 : Int32)), .val (.int y0), .val (.int y1), .val (.int y2), .val (.int y3), .val (.int y4), .val (.ref b821), .val (.ref b826), .val (.ref b835), .val (.ref b848), .val (.ref b865), .val (.ref b1142), .unset] [(.int (own_ok y0))]))
      refine own_if_eq X1197 hx hby at_348 (pcY := 387) (pcN := 351) (by decide) rfl (fun (hc1198 : (own_ok y0) = (0 : Int32)) => ?_) (fun (hc1198 : ¬ (own_ok y0) = (0 : Int32)) => ?_)
      · -- pc 348: t
        refine own_iconst X1197 hx hby at_387 rfl (0 : Int32) rfl ?_
        refine own_istore X1197 hx hby at_388 rfl #[.val (.int x0), .val (.int x1), .val (.int x2), .val (.int x3), .val (.int x4), .val (.int x5), .val (.int (5 : Int32)), .val (.int y0), .val (.int y1), .val (.int y2), .val (.int y3), .val (.int y4), .val (.ref b821), .val (.ref b826), .val (.ref b835), .val (.ref b848), .val (.ref b865), .val (.ref b1142), .val (.int (0 : Int32))] rfl ?_
        refine own_goto X1197 hx hby at_390 (pc' := 481) (by decide) ?_
        refine own_aload X1197 hx hby at_481 rfl rfl rfl ?_
        have f1200 := (f1149.keep K1148 (allS ge_b1142 all0))
        have f1201 := (A1142.keep K1148)
        refine own_static X1197 hx hby hZ (argsL := [(.ref b1142)]) (rest := []) hown (hw _ tw_10) (hw _ tw_11) (hw _ tw_12) (hw _ tw_13) (by decide) (rmv1_5 l Z a0 hw b1142 T1148.heap G (f1200).2 hr0 hr1 hr2 hr3 hr4 f1201 B1148 D1148 V1148) e1197 (by rw [hml]; rfl) pd_17 rfl (by decide) (W := 0) (Nat.le_refl _) (by decide) (by decide) (by decide) at_483 rfl rfl (fun v1199 T1199 L1199 X1199 hQ1199 => ?_)
        obtain ⟨rfl, rfl, e1199⟩ := hQ1199
        show Ends p.tables e below _ (T1199.setTop (mkF m 486 #[.val (.int x0), .val (.int x1), .val (.int x2), .val (.int x3), .val (.int x4), .val (.int x5), .val (.int (5 : Int32)), .val (.int y0), .val (.int y1), .val (.int y2), .val (.int y3), .val (.int y4), .val (.ref b821), .val (.ref b826), .val (.ref b835), .val (.ref b848), .val (.ref b865), .val (.ref b1142), .val (.int (0 : Int32))] [(.int (own_all [y0, y1, y2, y3, y4]))]))
        refine own_iload X1199 hx hby at_486 rfl rfl ?_
        refine own_icmp_ne X1199 hx hby at_488 (pcY := 495) (pcN := 491) (by decide) rfl (fun (hc1202 : ¬ (own_all [y0, y1, y2, y3, y4]) = (0 : Int32)) => False.elim (by exact hc1202 (by rw [own_all0 hc1198]))) (fun (hc1202 : (own_all [y0, y1, y2, y3, y4]) = (0 : Int32)) => ?_)
        refine own_iconst X1199 hx hby at_491 rfl (1 : Int32) rfl ?_
        refine own_goto X1199 hx hby at_492 (pc' := 496) (by decide) ?_
        have f1203 := (own_Rk (own_Re f885 E1142) K1148 (allS sf_b1142 all0))
        have f1204 := (Nat.le_trans (Nat.le_trans (Nat.le_trans (Nat.le_trans (Nat.le_trans (Nat.le_trans (Nat.le_trans (Nat.le_trans (Nat.le_trans (Nat.le_trans (Nat.le_trans (Nat.le_trans (Nat.le_trans (Nat.le_trans (Nat.le_trans (Nat.le_trans (Nat.le_trans (Nat.le_trans (Nat.le_trans (Nat.le_trans (Nat.le_trans (Nat.le_trans (Nat.le_refl _) E821.1) (Keep.of_wr W824).1) E826.1) (Keep.of_wr W830).1) (Keep.of_wr W833).1) E835.1) (Keep.of_wr W840).1) (Keep.of_wr W843).1) (Keep.of_wr W846).1) E848.1) (Keep.of_wr W854).1) (Keep.of_wr W857).1) (Keep.of_wr W860).1) (Keep.of_wr W863).1) E865.1) (Keep.of_wr W872).1) (Keep.of_wr W875).1) (Keep.of_wr W878).1) (Keep.of_wr W881).1) (Keep.of_wr W884).1) E1142.1) K1148.1)
        refine own_retH X1199 hx hby hret hlk at_496 (.int (1 : Int32)) rfl (Or.inl ⟨rfl, by simp, _, rfl⟩) hZ hEL (by rw [show T1199.heap = _ from e1199, show s.heap = _ from eh]; exact f1203) hS (by rw [show T1199.heap = _ from e1199]; exact f1204) (by decide) (by decide) ?_
        exact ⟨rfl, (Fr.app (Fr.app (Fr.app N884 N1148q) (Fr.nil _)) (Fr.nil _))⟩
      · -- pc 348: f
        refine own_iload X1197 hx hby at_351 rfl rfl ?_
        refine own_static X1197 hx hby hZ (argsL := [(.int y1)]) (rest := []) hown (hw _ tw_43) (hw _ tw_44) (hw _ tw_45) (hw _ tw_46) (by decide) (rm9 l Z a0 hw y1 T1148.heap) e1197 (by rw [hml]; rfl) pd_19 rfl (by decide) (W := 0) (Nat.le_refl _) (by decide) (by decide) (by decide) at_353 rfl rfl (fun v1205 T1205 L1205 X1205 hQ1205 => ?_)
        obtain ⟨rfl, rfl, e1205⟩ := hQ1205
        show Ends p.tables e below _ (T1205.setTop (mkF m 356 #[.val (.int x0), .val (.int x1), .val (.int x2), .val (.int x3), .val (.int x4), .val (.int x5), .val (.int (5 : Int32)), .val (.int y0), .val (.int y1), .val (.int y2), .val (.int y3), .val (.int y4), .val (.ref b821), .val (.ref b826), .val (.ref b835), .val (.ref b848), .val (.ref b865), .val (.ref b1142), .unset] [(.int (own_ok y1))]))
        refine own_if_eq X1205 hx hby at_356 (pcY := 387) (pcN := 359) (by decide) rfl (fun (hc1206 : (own_ok y1) = (0 : Int32)) => ?_) (fun (hc1206 : ¬ (own_ok y1) = (0 : Int32)) => ?_)
        · -- pc 356: t
          refine own_iconst X1205 hx hby at_387 rfl (0 : Int32) rfl ?_
          refine own_istore X1205 hx hby at_388 rfl #[.val (.int x0), .val (.int x1), .val (.int x2), .val (.int x3), .val (.int x4), .val (.int x5), .val (.int (5 : Int32)), .val (.int y0), .val (.int y1), .val (.int y2), .val (.int y3), .val (.int y4), .val (.ref b821), .val (.ref b826), .val (.ref b835), .val (.ref b848), .val (.ref b865), .val (.ref b1142), .val (.int (0 : Int32))] rfl ?_
          refine own_goto X1205 hx hby at_390 (pc' := 481) (by decide) ?_
          refine own_aload X1205 hx hby at_481 rfl rfl rfl ?_
          have f1208 := (f1149.keep K1148 (allS ge_b1142 all0))
          have f1209 := (A1142.keep K1148)
          refine own_static X1205 hx hby hZ (argsL := [(.ref b1142)]) (rest := []) hown (hw _ tw_10) (hw _ tw_11) (hw _ tw_12) (hw _ tw_13) (by decide) (rmv1_5 l Z a0 hw b1142 T1148.heap G (f1208).2 hr0 hr1 hr2 hr3 hr4 f1209 B1148 D1148 V1148) e1205 (by rw [hml]; rfl) pd_17 rfl (by decide) (W := 0) (Nat.le_refl _) (by decide) (by decide) (by decide) at_483 rfl rfl (fun v1207 T1207 L1207 X1207 hQ1207 => ?_)
          obtain ⟨rfl, rfl, e1207⟩ := hQ1207
          show Ends p.tables e below _ (T1207.setTop (mkF m 486 #[.val (.int x0), .val (.int x1), .val (.int x2), .val (.int x3), .val (.int x4), .val (.int x5), .val (.int (5 : Int32)), .val (.int y0), .val (.int y1), .val (.int y2), .val (.int y3), .val (.int y4), .val (.ref b821), .val (.ref b826), .val (.ref b835), .val (.ref b848), .val (.ref b865), .val (.ref b1142), .val (.int (0 : Int32))] [(.int (own_all [y0, y1, y2, y3, y4]))]))
          refine own_iload X1207 hx hby at_486 rfl rfl ?_
          refine own_icmp_ne X1207 hx hby at_488 (pcY := 495) (pcN := 491) (by decide) rfl (fun (hc1210 : ¬ (own_all [y0, y1, y2, y3, y4]) = (0 : Int32)) => False.elim (by exact hc1210 (by rw [own_all1 hc1198, own_all0 hc1206]))) (fun (hc1210 : (own_all [y0, y1, y2, y3, y4]) = (0 : Int32)) => ?_)
          refine own_iconst X1207 hx hby at_491 rfl (1 : Int32) rfl ?_
          refine own_goto X1207 hx hby at_492 (pc' := 496) (by decide) ?_
          have f1211 := (own_Rk (own_Re f885 E1142) K1148 (allS sf_b1142 all0))
          have f1212 := (Nat.le_trans (Nat.le_trans (Nat.le_trans (Nat.le_trans (Nat.le_trans (Nat.le_trans (Nat.le_trans (Nat.le_trans (Nat.le_trans (Nat.le_trans (Nat.le_trans (Nat.le_trans (Nat.le_trans (Nat.le_trans (Nat.le_trans (Nat.le_trans (Nat.le_trans (Nat.le_trans (Nat.le_trans (Nat.le_trans (Nat.le_trans (Nat.le_trans (Nat.le_refl _) E821.1) (Keep.of_wr W824).1) E826.1) (Keep.of_wr W830).1) (Keep.of_wr W833).1) E835.1) (Keep.of_wr W840).1) (Keep.of_wr W843).1) (Keep.of_wr W846).1) E848.1) (Keep.of_wr W854).1) (Keep.of_wr W857).1) (Keep.of_wr W860).1) (Keep.of_wr W863).1) E865.1) (Keep.of_wr W872).1) (Keep.of_wr W875).1) (Keep.of_wr W878).1) (Keep.of_wr W881).1) (Keep.of_wr W884).1) E1142.1) K1148.1)
          refine own_retH X1207 hx hby hret hlk at_496 (.int (1 : Int32)) rfl (Or.inl ⟨rfl, by simp, _, rfl⟩) hZ hEL (by rw [show T1207.heap = _ from e1207, show s.heap = _ from eh]; exact f1211) hS (by rw [show T1207.heap = _ from e1207]; exact f1212) (by decide) (by decide) ?_
          exact ⟨rfl, (Fr.app (Fr.app (Fr.app (Fr.app N884 N1148q) (Fr.nil _)) (Fr.nil _)) (Fr.nil _))⟩
        · -- pc 356: f
          refine own_iload X1205 hx hby at_359 rfl rfl ?_
          refine own_static X1205 hx hby hZ (argsL := [(.int y2)]) (rest := []) hown (hw _ tw_43) (hw _ tw_44) (hw _ tw_45) (hw _ tw_46) (by decide) (rm9 l Z a0 hw y2 T1148.heap) e1205 (by rw [hml]; rfl) pd_19 rfl (by decide) (W := 0) (Nat.le_refl _) (by decide) (by decide) (by decide) at_361 rfl rfl (fun v1213 T1213 L1213 X1213 hQ1213 => ?_)
          obtain ⟨rfl, rfl, e1213⟩ := hQ1213
          show Ends p.tables e below _ (T1213.setTop (mkF m 364 #[.val (.int x0), .val (.int x1), .val (.int x2), .val (.int x3), .val (.int x4), .val (.int x5), .val (.int (5 : Int32)), .val (.int y0), .val (.int y1), .val (.int y2), .val (.int y3), .val (.int y4), .val (.ref b821), .val (.ref b826), .val (.ref b835), .val (.ref b848), .val (.ref b865), .val (.ref b1142), .unset] [(.int (own_ok y2))]))
          refine own_if_eq X1213 hx hby at_364 (pcY := 387) (pcN := 367) (by decide) rfl (fun (hc1214 : (own_ok y2) = (0 : Int32)) => ?_) (fun (hc1214 : ¬ (own_ok y2) = (0 : Int32)) => ?_)
          · -- pc 364: t
            refine own_iconst X1213 hx hby at_387 rfl (0 : Int32) rfl ?_
            refine own_istore X1213 hx hby at_388 rfl #[.val (.int x0), .val (.int x1), .val (.int x2), .val (.int x3), .val (.int x4), .val (.int x5), .val (.int (5 : Int32)), .val (.int y0), .val (.int y1), .val (.int y2), .val (.int y3), .val (.int y4), .val (.ref b821), .val (.ref b826), .val (.ref b835), .val (.ref b848), .val (.ref b865), .val (.ref b1142), .val (.int (0 : Int32))] rfl ?_
            refine own_goto X1213 hx hby at_390 (pc' := 481) (by decide) ?_
            refine own_aload X1213 hx hby at_481 rfl rfl rfl ?_
            have f1216 := (f1149.keep K1148 (allS ge_b1142 all0))
            have f1217 := (A1142.keep K1148)
            refine own_static X1213 hx hby hZ (argsL := [(.ref b1142)]) (rest := []) hown (hw _ tw_10) (hw _ tw_11) (hw _ tw_12) (hw _ tw_13) (by decide) (rmv1_5 l Z a0 hw b1142 T1148.heap G (f1216).2 hr0 hr1 hr2 hr3 hr4 f1217 B1148 D1148 V1148) e1213 (by rw [hml]; rfl) pd_17 rfl (by decide) (W := 0) (Nat.le_refl _) (by decide) (by decide) (by decide) at_483 rfl rfl (fun v1215 T1215 L1215 X1215 hQ1215 => ?_)
            obtain ⟨rfl, rfl, e1215⟩ := hQ1215
            show Ends p.tables e below _ (T1215.setTop (mkF m 486 #[.val (.int x0), .val (.int x1), .val (.int x2), .val (.int x3), .val (.int x4), .val (.int x5), .val (.int (5 : Int32)), .val (.int y0), .val (.int y1), .val (.int y2), .val (.int y3), .val (.int y4), .val (.ref b821), .val (.ref b826), .val (.ref b835), .val (.ref b848), .val (.ref b865), .val (.ref b1142), .val (.int (0 : Int32))] [(.int (own_all [y0, y1, y2, y3, y4]))]))
            refine own_iload X1215 hx hby at_486 rfl rfl ?_
            refine own_icmp_ne X1215 hx hby at_488 (pcY := 495) (pcN := 491) (by decide) rfl (fun (hc1218 : ¬ (own_all [y0, y1, y2, y3, y4]) = (0 : Int32)) => False.elim (by exact hc1218 (by rw [own_all1 hc1198, own_all1 hc1206, own_all0 hc1214]))) (fun (hc1218 : (own_all [y0, y1, y2, y3, y4]) = (0 : Int32)) => ?_)
            refine own_iconst X1215 hx hby at_491 rfl (1 : Int32) rfl ?_
            refine own_goto X1215 hx hby at_492 (pc' := 496) (by decide) ?_
            have f1219 := (own_Rk (own_Re f885 E1142) K1148 (allS sf_b1142 all0))
            have f1220 := (Nat.le_trans (Nat.le_trans (Nat.le_trans (Nat.le_trans (Nat.le_trans (Nat.le_trans (Nat.le_trans (Nat.le_trans (Nat.le_trans (Nat.le_trans (Nat.le_trans (Nat.le_trans (Nat.le_trans (Nat.le_trans (Nat.le_trans (Nat.le_trans (Nat.le_trans (Nat.le_trans (Nat.le_trans (Nat.le_trans (Nat.le_trans (Nat.le_trans (Nat.le_refl _) E821.1) (Keep.of_wr W824).1) E826.1) (Keep.of_wr W830).1) (Keep.of_wr W833).1) E835.1) (Keep.of_wr W840).1) (Keep.of_wr W843).1) (Keep.of_wr W846).1) E848.1) (Keep.of_wr W854).1) (Keep.of_wr W857).1) (Keep.of_wr W860).1) (Keep.of_wr W863).1) E865.1) (Keep.of_wr W872).1) (Keep.of_wr W875).1) (Keep.of_wr W878).1) (Keep.of_wr W881).1) (Keep.of_wr W884).1) E1142.1) K1148.1)
            refine own_retH X1215 hx hby hret hlk at_496 (.int (1 : Int32)) rfl (Or.inl ⟨rfl, by simp, _, rfl⟩) hZ hEL (by rw [show T1215.heap = _ from e1215, show s.heap = _ from eh]; exact f1219) hS (by rw [show T1215.heap = _ from e1215]; exact f1220) (by decide) (by decide) ?_
            exact ⟨rfl, (Fr.app (Fr.app (Fr.app (Fr.app (Fr.app N884 N1148q) (Fr.nil _)) (Fr.nil _)) (Fr.nil _)) (Fr.nil _))⟩
          · -- pc 364: f
            refine own_iload X1213 hx hby at_367 rfl rfl ?_
            refine own_static X1213 hx hby hZ (argsL := [(.int y3)]) (rest := []) hown (hw _ tw_43) (hw _ tw_44) (hw _ tw_45) (hw _ tw_46) (by decide) (rm9 l Z a0 hw y3 T1148.heap) e1213 (by rw [hml]; rfl) pd_19 rfl (by decide) (W := 0) (Nat.le_refl _) (by decide) (by decide) (by decide) at_369 rfl rfl (fun v1221 T1221 L1221 X1221 hQ1221 => ?_)
            obtain ⟨rfl, rfl, e1221⟩ := hQ1221
            show Ends p.tables e below _ (T1221.setTop (mkF m 372 #[.val (.int x0), .val (.int x1), .val (.int x2), .val (.int x3), .val (.int x4), .val (.int x5), .val (.int (5 : Int32)), .val (.int y0), .val (.int y1), .val (.int y2), .val (.int y3), .val (.int y4), .val (.ref b821), .val (.ref b826), .val (.ref b835), .val (.ref b848), .val (.ref b865), .val (.ref b1142), .unset] [(.int (own_ok y3))]))
            refine own_if_eq X1221 hx hby at_372 (pcY := 387) (pcN := 375) (by decide) rfl (fun (hc1222 : (own_ok y3) = (0 : Int32)) => ?_) (fun (hc1222 : ¬ (own_ok y3) = (0 : Int32)) => ?_)
            · -- pc 372: t
              refine own_iconst X1221 hx hby at_387 rfl (0 : Int32) rfl ?_
              refine own_istore X1221 hx hby at_388 rfl #[.val (.int x0), .val (.int x1), .val (.int x2), .val (.int x3), .val (.int x4), .val (.int x5), .val (.int (5 : Int32)), .val (.int y0), .val (.int y1), .val (.int y2), .val (.int y3), .val (.int y4), .val (.ref b821), .val (.ref b826), .val (.ref b835), .val (.ref b848), .val (.ref b865), .val (.ref b1142), .val (.int (0 : Int32))] rfl ?_
              refine own_goto X1221 hx hby at_390 (pc' := 481) (by decide) ?_
              refine own_aload X1221 hx hby at_481 rfl rfl rfl ?_
              have f1224 := (f1149.keep K1148 (allS ge_b1142 all0))
              have f1225 := (A1142.keep K1148)
              refine own_static X1221 hx hby hZ (argsL := [(.ref b1142)]) (rest := []) hown (hw _ tw_10) (hw _ tw_11) (hw _ tw_12) (hw _ tw_13) (by decide) (rmv1_5 l Z a0 hw b1142 T1148.heap G (f1224).2 hr0 hr1 hr2 hr3 hr4 f1225 B1148 D1148 V1148) e1221 (by rw [hml]; rfl) pd_17 rfl (by decide) (W := 0) (Nat.le_refl _) (by decide) (by decide) (by decide) at_483 rfl rfl (fun v1223 T1223 L1223 X1223 hQ1223 => ?_)
              obtain ⟨rfl, rfl, e1223⟩ := hQ1223
              show Ends p.tables e below _ (T1223.setTop (mkF m 486 #[.val (.int x0), .val (.int x1), .val (.int x2), .val (.int x3), .val (.int x4), .val (.int x5), .val (.int (5 : Int32)), .val (.int y0), .val (.int y1), .val (.int y2), .val (.int y3), .val (.int y4), .val (.ref b821), .val (.ref b826), .val (.ref b835), .val (.ref b848), .val (.ref b865), .val (.ref b1142), .val (.int (0 : Int32))] [(.int (own_all [y0, y1, y2, y3, y4]))]))
              refine own_iload X1223 hx hby at_486 rfl rfl ?_
              refine own_icmp_ne X1223 hx hby at_488 (pcY := 495) (pcN := 491) (by decide) rfl (fun (hc1226 : ¬ (own_all [y0, y1, y2, y3, y4]) = (0 : Int32)) => False.elim (by exact hc1226 (by rw [own_all1 hc1198, own_all1 hc1206, own_all1 hc1214, own_all0 hc1222]))) (fun (hc1226 : (own_all [y0, y1, y2, y3, y4]) = (0 : Int32)) => ?_)
              refine own_iconst X1223 hx hby at_491 rfl (1 : Int32) rfl ?_
              refine own_goto X1223 hx hby at_492 (pc' := 496) (by decide) ?_
              have f1227 := (own_Rk (own_Re f885 E1142) K1148 (allS sf_b1142 all0))
              have f1228 := (Nat.le_trans (Nat.le_trans (Nat.le_trans (Nat.le_trans (Nat.le_trans (Nat.le_trans (Nat.le_trans (Nat.le_trans (Nat.le_trans (Nat.le_trans (Nat.le_trans (Nat.le_trans (Nat.le_trans (Nat.le_trans (Nat.le_trans (Nat.le_trans (Nat.le_trans (Nat.le_trans (Nat.le_trans (Nat.le_trans (Nat.le_trans (Nat.le_trans (Nat.le_refl _) E821.1) (Keep.of_wr W824).1) E826.1) (Keep.of_wr W830).1) (Keep.of_wr W833).1) E835.1) (Keep.of_wr W840).1) (Keep.of_wr W843).1) (Keep.of_wr W846).1) E848.1) (Keep.of_wr W854).1) (Keep.of_wr W857).1) (Keep.of_wr W860).1) (Keep.of_wr W863).1) E865.1) (Keep.of_wr W872).1) (Keep.of_wr W875).1) (Keep.of_wr W878).1) (Keep.of_wr W881).1) (Keep.of_wr W884).1) E1142.1) K1148.1)
              refine own_retH X1223 hx hby hret hlk at_496 (.int (1 : Int32)) rfl (Or.inl ⟨rfl, by simp, _, rfl⟩) hZ hEL (by rw [show T1223.heap = _ from e1223, show s.heap = _ from eh]; exact f1227) hS (by rw [show T1223.heap = _ from e1223]; exact f1228) (by decide) (by decide) ?_
              exact ⟨rfl, (Fr.app (Fr.app (Fr.app (Fr.app (Fr.app (Fr.app N884 N1148q) (Fr.nil _)) (Fr.nil _)) (Fr.nil _)) (Fr.nil _)) (Fr.nil _))⟩
            · -- pc 372: f
              refine own_iload X1221 hx hby at_375 rfl rfl ?_
              refine own_static X1221 hx hby hZ (argsL := [(.int y4)]) (rest := []) hown (hw _ tw_43) (hw _ tw_44) (hw _ tw_45) (hw _ tw_46) (by decide) (rm9 l Z a0 hw y4 T1148.heap) e1221 (by rw [hml]; rfl) pd_19 rfl (by decide) (W := 0) (Nat.le_refl _) (by decide) (by decide) (by decide) at_377 rfl rfl (fun v1229 T1229 L1229 X1229 hQ1229 => ?_)
              obtain ⟨rfl, rfl, e1229⟩ := hQ1229
              show Ends p.tables e below _ (T1229.setTop (mkF m 380 #[.val (.int x0), .val (.int x1), .val (.int x2), .val (.int x3), .val (.int x4), .val (.int x5), .val (.int (5 : Int32)), .val (.int y0), .val (.int y1), .val (.int y2), .val (.int y3), .val (.int y4), .val (.ref b821), .val (.ref b826), .val (.ref b835), .val (.ref b848), .val (.ref b865), .val (.ref b1142), .unset] [(.int (own_ok y4))]))
              refine own_if_eq X1229 hx hby at_380 (pcY := 387) (pcN := 383) (by decide) rfl (fun (hc1230 : (own_ok y4) = (0 : Int32)) => ?_) (fun (hc1230 : ¬ (own_ok y4) = (0 : Int32)) => ?_)
              · -- pc 380: t
                refine own_iconst X1229 hx hby at_387 rfl (0 : Int32) rfl ?_
                refine own_istore X1229 hx hby at_388 rfl #[.val (.int x0), .val (.int x1), .val (.int x2), .val (.int x3), .val (.int x4), .val (.int x5), .val (.int (5 : Int32)), .val (.int y0), .val (.int y1), .val (.int y2), .val (.int y3), .val (.int y4), .val (.ref b821), .val (.ref b826), .val (.ref b835), .val (.ref b848), .val (.ref b865), .val (.ref b1142), .val (.int (0 : Int32))] rfl ?_
                refine own_goto X1229 hx hby at_390 (pc' := 481) (by decide) ?_
                refine own_aload X1229 hx hby at_481 rfl rfl rfl ?_
                have f1232 := (f1149.keep K1148 (allS ge_b1142 all0))
                have f1233 := (A1142.keep K1148)
                refine own_static X1229 hx hby hZ (argsL := [(.ref b1142)]) (rest := []) hown (hw _ tw_10) (hw _ tw_11) (hw _ tw_12) (hw _ tw_13) (by decide) (rmv1_5 l Z a0 hw b1142 T1148.heap G (f1232).2 hr0 hr1 hr2 hr3 hr4 f1233 B1148 D1148 V1148) e1229 (by rw [hml]; rfl) pd_17 rfl (by decide) (W := 0) (Nat.le_refl _) (by decide) (by decide) (by decide) at_483 rfl rfl (fun v1231 T1231 L1231 X1231 hQ1231 => ?_)
                obtain ⟨rfl, rfl, e1231⟩ := hQ1231
                show Ends p.tables e below _ (T1231.setTop (mkF m 486 #[.val (.int x0), .val (.int x1), .val (.int x2), .val (.int x3), .val (.int x4), .val (.int x5), .val (.int (5 : Int32)), .val (.int y0), .val (.int y1), .val (.int y2), .val (.int y3), .val (.int y4), .val (.ref b821), .val (.ref b826), .val (.ref b835), .val (.ref b848), .val (.ref b865), .val (.ref b1142), .val (.int (0 : Int32))] [(.int (own_all [y0, y1, y2, y3, y4]))]))
                refine own_iload X1231 hx hby at_486 rfl rfl ?_
                refine own_icmp_ne X1231 hx hby at_488 (pcY := 495) (pcN := 491) (by decide) rfl (fun (hc1234 : ¬ (own_all [y0, y1, y2, y3, y4]) = (0 : Int32)) => False.elim (by exact hc1234 (by rw [own_all1 hc1198, own_all1 hc1206, own_all1 hc1214, own_all1 hc1222, own_all0 hc1230]))) (fun (hc1234 : (own_all [y0, y1, y2, y3, y4]) = (0 : Int32)) => ?_)
                refine own_iconst X1231 hx hby at_491 rfl (1 : Int32) rfl ?_
                refine own_goto X1231 hx hby at_492 (pc' := 496) (by decide) ?_
                have f1235 := (own_Rk (own_Re f885 E1142) K1148 (allS sf_b1142 all0))
                have f1236 := (Nat.le_trans (Nat.le_trans (Nat.le_trans (Nat.le_trans (Nat.le_trans (Nat.le_trans (Nat.le_trans (Nat.le_trans (Nat.le_trans (Nat.le_trans (Nat.le_trans (Nat.le_trans (Nat.le_trans (Nat.le_trans (Nat.le_trans (Nat.le_trans (Nat.le_trans (Nat.le_trans (Nat.le_trans (Nat.le_trans (Nat.le_trans (Nat.le_trans (Nat.le_refl _) E821.1) (Keep.of_wr W824).1) E826.1) (Keep.of_wr W830).1) (Keep.of_wr W833).1) E835.1) (Keep.of_wr W840).1) (Keep.of_wr W843).1) (Keep.of_wr W846).1) E848.1) (Keep.of_wr W854).1) (Keep.of_wr W857).1) (Keep.of_wr W860).1) (Keep.of_wr W863).1) E865.1) (Keep.of_wr W872).1) (Keep.of_wr W875).1) (Keep.of_wr W878).1) (Keep.of_wr W881).1) (Keep.of_wr W884).1) E1142.1) K1148.1)
                refine own_retH X1231 hx hby hret hlk at_496 (.int (1 : Int32)) rfl (Or.inl ⟨rfl, by simp, _, rfl⟩) hZ hEL (by rw [show T1231.heap = _ from e1231, show s.heap = _ from eh]; exact f1235) hS (by rw [show T1231.heap = _ from e1231]; exact f1236) (by decide) (by decide) ?_
                exact ⟨rfl, (Fr.app (Fr.app (Fr.app (Fr.app (Fr.app (Fr.app (Fr.app N884 N1148q) (Fr.nil _)) (Fr.nil _)) (Fr.nil _)) (Fr.nil _)) (Fr.nil _)) (Fr.nil _))⟩
              · -- pc 380: f
                refine own_iconst X1229 hx hby at_383 rfl (1 : Int32) rfl ?_
                refine own_goto X1229 hx hby at_384 (pc' := 388) (by decide) ?_
                refine own_istore X1229 hx hby at_388 rfl #[.val (.int x0), .val (.int x1), .val (.int x2), .val (.int x3), .val (.int x4), .val (.int x5), .val (.int (5 : Int32)), .val (.int y0), .val (.int y1), .val (.int y2), .val (.int y3), .val (.int y4), .val (.ref b821), .val (.ref b826), .val (.ref b835), .val (.ref b848), .val (.ref b865), .val (.ref b1142), .val (.int (1 : Int32))] rfl ?_
                refine own_goto X1229 hx hby at_390 (pc' := 481) (by decide) ?_
                refine own_aload X1229 hx hby at_481 rfl rfl rfl ?_
                have f1238 := (f1149.keep K1148 (allS ge_b1142 all0))
                have f1239 := (A1142.keep K1148)
                refine own_static X1229 hx hby hZ (argsL := [(.ref b1142)]) (rest := []) hown (hw _ tw_10) (hw _ tw_11) (hw _ tw_12) (hw _ tw_13) (by decide) (rmv1_5 l Z a0 hw b1142 T1148.heap G (f1238).2 hr0 hr1 hr2 hr3 hr4 f1239 B1148 D1148 V1148) e1229 (by rw [hml]; rfl) pd_17 rfl (by decide) (W := 0) (Nat.le_refl _) (by decide) (by decide) (by decide) at_483 rfl rfl (fun v1237 T1237 L1237 X1237 hQ1237 => ?_)
                obtain ⟨rfl, rfl, e1237⟩ := hQ1237
                show Ends p.tables e below _ (T1237.setTop (mkF m 486 #[.val (.int x0), .val (.int x1), .val (.int x2), .val (.int x3), .val (.int x4), .val (.int x5), .val (.int (5 : Int32)), .val (.int y0), .val (.int y1), .val (.int y2), .val (.int y3), .val (.int y4), .val (.ref b821), .val (.ref b826), .val (.ref b835), .val (.ref b848), .val (.ref b865), .val (.ref b1142), .val (.int (1 : Int32))] [(.int (own_all [y0, y1, y2, y3, y4]))]))
                refine own_iload X1237 hx hby at_486 rfl rfl ?_
                refine own_icmp_ne X1237 hx hby at_488 (pcY := 495) (pcN := 491) (by decide) rfl (fun (hc1240 : ¬ (own_all [y0, y1, y2, y3, y4]) = (1 : Int32)) => False.elim (by exact hc1240 (by rw [own_all1 hc1198, own_all1 hc1206, own_all1 hc1214, own_all1 hc1222, own_all1 hc1230]; rfl))) (fun (hc1240 : (own_all [y0, y1, y2, y3, y4]) = (1 : Int32)) => ?_)
                refine own_iconst X1237 hx hby at_491 rfl (1 : Int32) rfl ?_
                refine own_goto X1237 hx hby at_492 (pc' := 496) (by decide) ?_
                have f1241 := (own_Rk (own_Re f885 E1142) K1148 (allS sf_b1142 all0))
                have f1242 := (Nat.le_trans (Nat.le_trans (Nat.le_trans (Nat.le_trans (Nat.le_trans (Nat.le_trans (Nat.le_trans (Nat.le_trans (Nat.le_trans (Nat.le_trans (Nat.le_trans (Nat.le_trans (Nat.le_trans (Nat.le_trans (Nat.le_trans (Nat.le_trans (Nat.le_trans (Nat.le_trans (Nat.le_trans (Nat.le_trans (Nat.le_trans (Nat.le_trans (Nat.le_refl _) E821.1) (Keep.of_wr W824).1) E826.1) (Keep.of_wr W830).1) (Keep.of_wr W833).1) E835.1) (Keep.of_wr W840).1) (Keep.of_wr W843).1) (Keep.of_wr W846).1) E848.1) (Keep.of_wr W854).1) (Keep.of_wr W857).1) (Keep.of_wr W860).1) (Keep.of_wr W863).1) E865.1) (Keep.of_wr W872).1) (Keep.of_wr W875).1) (Keep.of_wr W878).1) (Keep.of_wr W881).1) (Keep.of_wr W884).1) E1142.1) K1148.1)
                refine own_retH X1237 hx hby hret hlk at_496 (.int (1 : Int32)) rfl (Or.inl ⟨rfl, by simp, _, rfl⟩) hZ hEL (by rw [show T1237.heap = _ from e1237, show s.heap = _ from eh]; exact f1241) hS (by rw [show T1237.heap = _ from e1237]; exact f1242) (by decide) (by decide) ?_
                exact ⟨rfl, (Fr.app (Fr.app (Fr.app (Fr.app (Fr.app (Fr.app (Fr.app N884 N1148q) (Fr.nil _)) (Fr.nil _)) (Fr.nil _)) (Fr.nil _)) (Fr.nil _)) (Fr.nil _))⟩
  · -- 6
    rw [hz]
    show Ends p.tables e below _ (T884.setTop (mkF m 131 #[.val (.int x0), .val (.int x1), .val (.int x2), .val (.int x3), .val (.int x4), .val (.int x5), .val (.int (6 : Int32)), .val (.int y0), .val (.int y1), .val (.int y2), .val (.int y3), .val (.int y4), .val (.ref b821), .val (.ref b826), .val (.ref b835), .val (.ref b848), .val (.ref b865), .unset, .unset] []))
    refine own_iload X884 hx hby at_131 rfl rfl ?_
    refine own_if_ne X884 hx hby at_133 (pcY := 146) (pcN := 136) (by decide) rfl (fun (hc1243 : ¬ (6 : Int32) = (0 : Int32)) => ?_) (fun (hc1243 : (6 : Int32) = (0 : Int32)) => False.elim (by exact absurd hc1243 (by decide)))
    refine own_iload X884 hx hby at_146 rfl rfl ?_
    refine own_iconst X884 hx hby at_148 rfl (1 : Int32) rfl ?_
    refine own_icmp_ne X884 hx hby at_149 (pcY := 173) (pcN := 152) (by decide) rfl (fun (hc1244 : ¬ (6 : Int32) = (1 : Int32)) => ?_) (fun (hc1244 : (6 : Int32) = (1 : Int32)) => False.elim (by exact absurd hc1244 (by decide)))
    refine own_iload X884 hx hby at_173 rfl rfl ?_
    refine own_iconst X884 hx hby at_175 rfl (2 : Int32) rfl ?_
    refine own_icmp_ne X884 hx hby at_176 (pcY := 216) (pcN := 179) (by decide) rfl (fun (hc1245 : ¬ (6 : Int32) = (2 : Int32)) => ?_) (fun (hc1245 : (6 : Int32) = (2 : Int32)) => False.elim (by exact absurd hc1245 (by decide)))
    refine own_iload X884 hx hby at_216 rfl rfl ?_
    refine own_iconst X884 hx hby at_218 rfl (3 : Int32) rfl ?_
    refine own_icmp_ne X884 hx hby at_219 (pcY := 267) (pcN := 222) (by decide) rfl (fun (hc1246 : ¬ (6 : Int32) = (3 : Int32)) => ?_) (fun (hc1246 : (6 : Int32) = (3 : Int32)) => False.elim (by exact absurd hc1246 (by decide)))
    refine own_iload X884 hx hby at_267 rfl rfl ?_
    refine own_iconst X884 hx hby at_269 rfl (4 : Int32) rfl ?_
    refine own_icmp_ne X884 hx hby at_270 (pcY := 326) (pcN := 273) (by decide) rfl (fun (hc1247 : ¬ (6 : Int32) = (4 : Int32)) => ?_) (fun (hc1247 : (6 : Int32) = (4 : Int32)) => False.elim (by exact absurd hc1247 (by decide)))
    refine own_iload X884 hx hby at_326 rfl rfl ?_
    refine own_iconst X884 hx hby at_328 rfl (5 : Int32) rfl ?_
    refine own_icmp_ne X884 hx hby at_329 (pcY := 393) (pcN := 332) (by decide) rfl (fun (hc1248 : ¬ (6 : Int32) = (5 : Int32)) => ?_) (fun (hc1248 : (6 : Int32) = (5 : Int32)) => False.elim (by exact absurd hc1248 (by decide)))
    refine own_iload X884 hx hby at_393 rfl rfl ?_
    refine own_bipush X884 hx hby at_395 rfl (6 : Int32) rfl ?_
    refine own_icmp_ne X884 hx hby at_397 (pcY := 409) (pcN := 400) (by decide) rfl (fun (hc1249 : ¬ (6 : Int32) = (6 : Int32)) => False.elim (by exact absurd hc1249 (by decide))) (fun (hc1249 : (6 : Int32) = (6 : Int32)) => ?_)
    refine own_aconstNull X884 hx hby at_400 rfl ?_
    refine own_astore X884 hx hby at_401 rfl #[.val (.int x0), .val (.int x1), .val (.int x2), .val (.int x3), .val (.int x4), .val (.int x5), .val (.int (6 : Int32)), .val (.int y0), .val (.int y1), .val (.int y2), .val (.int y3), .val (.int y4), .val (.ref b821), .val (.ref b826), .val (.ref b835), .val (.ref b848), .val (.ref b865), .val .null, .unset] rfl rfl ?_
    refine own_iconst X884 hx hby at_403 rfl (0 : Int32) rfl ?_
    refine own_istore X884 hx hby at_404 rfl #[.val (.int x0), .val (.int x1), .val (.int x2), .val (.int x3), .val (.int x4), .val (.int x5), .val (.int (6 : Int32)), .val (.int y0), .val (.int y1), .val (.int y2), .val (.int y3), .val (.int y4), .val (.ref b821), .val (.ref b826), .val (.ref b835), .val (.ref b848), .val (.ref b865), .val .null, .val (.int (0 : Int32))] rfl ?_
    refine own_goto X884 hx hby at_406 (pc' := 481) (by decide) ?_
    refine own_aload X884 hx hby at_481 rfl rfl rfl ?_
    refine own_static X884 hx hby hZ (argsL := [.null]) (rest := []) hown (hw _ tw_10) (hw _ tw_11) (hw _ tw_12) (hw _ tw_13) (by decide) (rmvnull l Z a0 hw h884) e884 (by rw [hml]; rfl) pd_17 rfl (by decide) (W := 0) (Nat.le_refl _) (by decide) (by decide) (by decide) at_483 rfl rfl (fun v1250 T1250 L1250 X1250 hQ1250 => ?_)
    obtain ⟨rfl, rfl, e1250⟩ := hQ1250
    show Ends p.tables e below _ (T1250.setTop (mkF m 486 #[.val (.int x0), .val (.int x1), .val (.int x2), .val (.int x3), .val (.int x4), .val (.int x5), .val (.int (6 : Int32)), .val (.int y0), .val (.int y1), .val (.int y2), .val (.int y3), .val (.int y4), .val (.ref b821), .val (.ref b826), .val (.ref b835), .val (.ref b848), .val (.ref b865), .val .null, .val (.int (0 : Int32))] [(.int (0 : Int32))]))
    refine own_iload X1250 hx hby at_486 rfl rfl ?_
    refine own_icmp_ne X1250 hx hby at_488 (pcY := 495) (pcN := 491) (by decide) rfl (fun (hc1251 : ¬ (0 : Int32) = (0 : Int32)) => False.elim (by exact absurd hc1251 (by decide))) (fun (hc1251 : (0 : Int32) = (0 : Int32)) => ?_)
    refine own_iconst X1250 hx hby at_491 rfl (1 : Int32) rfl ?_
    refine own_goto X1250 hx hby at_492 (pc' := 496) (by decide) ?_
    have f1252 := (Nat.le_trans (Nat.le_trans (Nat.le_trans (Nat.le_trans (Nat.le_trans (Nat.le_trans (Nat.le_trans (Nat.le_trans (Nat.le_trans (Nat.le_trans (Nat.le_trans (Nat.le_trans (Nat.le_trans (Nat.le_trans (Nat.le_trans (Nat.le_trans (Nat.le_trans (Nat.le_trans (Nat.le_trans (Nat.le_trans (Nat.le_refl _) E821.1) (Keep.of_wr W824).1) E826.1) (Keep.of_wr W830).1) (Keep.of_wr W833).1) E835.1) (Keep.of_wr W840).1) (Keep.of_wr W843).1) (Keep.of_wr W846).1) E848.1) (Keep.of_wr W854).1) (Keep.of_wr W857).1) (Keep.of_wr W860).1) (Keep.of_wr W863).1) E865.1) (Keep.of_wr W872).1) (Keep.of_wr W875).1) (Keep.of_wr W878).1) (Keep.of_wr W881).1) (Keep.of_wr W884).1)
    refine own_retH X1250 hx hby hret hlk at_496 (.int (1 : Int32)) rfl (Or.inl ⟨rfl, by simp, _, rfl⟩) hZ hEL (by rw [show T1250.heap = _ from e1250, show s.heap = _ from eh]; exact f885) hS (by rw [show T1250.heap = _ from e1250]; exact f1252) (by decide) (by decide) ?_
    exact ⟨rfl, (Fr.app N884 (Fr.nil _))⟩
  · -- 7
    rw [hz]
    show Ends p.tables e below _ (T884.setTop (mkF m 131 #[.val (.int x0), .val (.int x1), .val (.int x2), .val (.int x3), .val (.int x4), .val (.int x5), .val (.int (7 : Int32)), .val (.int y0), .val (.int y1), .val (.int y2), .val (.int y3), .val (.int y4), .val (.ref b821), .val (.ref b826), .val (.ref b835), .val (.ref b848), .val (.ref b865), .unset, .unset] []))
    refine own_iload X884 hx hby at_131 rfl rfl ?_
    refine own_if_ne X884 hx hby at_133 (pcY := 146) (pcN := 136) (by decide) rfl (fun (hc1253 : ¬ (7 : Int32) = (0 : Int32)) => ?_) (fun (hc1253 : (7 : Int32) = (0 : Int32)) => False.elim (by exact absurd hc1253 (by decide)))
    refine own_iload X884 hx hby at_146 rfl rfl ?_
    refine own_iconst X884 hx hby at_148 rfl (1 : Int32) rfl ?_
    refine own_icmp_ne X884 hx hby at_149 (pcY := 173) (pcN := 152) (by decide) rfl (fun (hc1254 : ¬ (7 : Int32) = (1 : Int32)) => ?_) (fun (hc1254 : (7 : Int32) = (1 : Int32)) => False.elim (by exact absurd hc1254 (by decide)))
    refine own_iload X884 hx hby at_173 rfl rfl ?_
    refine own_iconst X884 hx hby at_175 rfl (2 : Int32) rfl ?_
    refine own_icmp_ne X884 hx hby at_176 (pcY := 216) (pcN := 179) (by decide) rfl (fun (hc1255 : ¬ (7 : Int32) = (2 : Int32)) => ?_) (fun (hc1255 : (7 : Int32) = (2 : Int32)) => False.elim (by exact absurd hc1255 (by decide)))
    refine own_iload X884 hx hby at_216 rfl rfl ?_
    refine own_iconst X884 hx hby at_218 rfl (3 : Int32) rfl ?_
    refine own_icmp_ne X884 hx hby at_219 (pcY := 267) (pcN := 222) (by decide) rfl (fun (hc1256 : ¬ (7 : Int32) = (3 : Int32)) => ?_) (fun (hc1256 : (7 : Int32) = (3 : Int32)) => False.elim (by exact absurd hc1256 (by decide)))
    refine own_iload X884 hx hby at_267 rfl rfl ?_
    refine own_iconst X884 hx hby at_269 rfl (4 : Int32) rfl ?_
    refine own_icmp_ne X884 hx hby at_270 (pcY := 326) (pcN := 273) (by decide) rfl (fun (hc1257 : ¬ (7 : Int32) = (4 : Int32)) => ?_) (fun (hc1257 : (7 : Int32) = (4 : Int32)) => False.elim (by exact absurd hc1257 (by decide)))
    refine own_iload X884 hx hby at_326 rfl rfl ?_
    refine own_iconst X884 hx hby at_328 rfl (5 : Int32) rfl ?_
    refine own_icmp_ne X884 hx hby at_329 (pcY := 393) (pcN := 332) (by decide) rfl (fun (hc1258 : ¬ (7 : Int32) = (5 : Int32)) => ?_) (fun (hc1258 : (7 : Int32) = (5 : Int32)) => False.elim (by exact absurd hc1258 (by decide)))
    refine own_iload X884 hx hby at_393 rfl rfl ?_
    refine own_bipush X884 hx hby at_395 rfl (6 : Int32) rfl ?_
    refine own_icmp_ne X884 hx hby at_397 (pcY := 409) (pcN := 400) (by decide) rfl (fun (hc1259 : ¬ (7 : Int32) = (6 : Int32)) => ?_) (fun (hc1259 : (7 : Int32) = (6 : Int32)) => False.elim (by exact absurd hc1259 (by decide)))
    refine own_iload X884 hx hby at_409 rfl rfl ?_
    refine own_bipush X884 hx hby at_411 rfl (7 : Int32) rfl ?_
    refine own_icmp_ne X884 hx hby at_413 (pcY := 450) (pcN := 416) (by decide) rfl (fun (hc1260 : ¬ (7 : Int32) = (7 : Int32)) => False.elim (by exact absurd hc1260 (by decide))) (fun (hc1260 : (7 : Int32) = (7 : Int32)) => ?_)
    have f1262 := (Nat.le_trans (Nat.le_trans (Nat.le_trans (Nat.le_trans (Nat.le_trans (Nat.le_trans (Nat.le_trans (Nat.le_trans (Nat.le_trans (Nat.le_trans (Nat.le_trans (Nat.le_trans (Nat.le_trans (Nat.le_trans (Nat.le_trans (Nat.le_trans (Nat.le_trans (Nat.le_trans (Nat.le_trans (Nat.le_trans (Nat.le_refl _) E821.1) (Keep.of_wr W824).1) E826.1) (Keep.of_wr W830).1) (Keep.of_wr W833).1) E835.1) (Keep.of_wr W840).1) (Keep.of_wr W843).1) (Keep.of_wr W846).1) E848.1) (Keep.of_wr W854).1) (Keep.of_wr W857).1) (Keep.of_wr W860).1) (Keep.of_wr W863).1) E865.1) (Keep.of_wr W872).1) (Keep.of_wr W875).1) (Keep.of_wr W878).1) (Keep.of_wr W881).1) (Keep.of_wr W884).1)
    refine own_ldcH X884 hx hby hZ hown (hw _ tw_116) (own_satoms hw) e884 hS f1262 hEL (show ("com/example/uni_errors/unierrors/CorrelationHeadersIsValidIdPinLaw", (21 : Nat)) ∈ consts_1 by decide) f885.1 own_v128 (128 : Int32) (by decide +kernel) (by decide) (by decide +kernel) 512 (by decide +kernel) (by decide) (by decide) (by decide) at_416 rfl (fun b1261 T1261 h1261 k1261 c1261 j1261 X1261 e1261 E1261 hS hk1261 hZ hown A1261 B1261 D1261 V1261 C1261 S1261 => ?_)
    have R1261 := f885.trans C1261
    show Ends p.tables e below _ (T1261.setTop (mkF m 418 #[.val (.int x0), .val (.int x1), .val (.int x2), .val (.int x3), .val (.int x4), .val (.int x5), .val (.int (7 : Int32)), .val (.int y0), .val (.int y1), .val (.int y2), .val (.int y3), .val (.int y4), .val (.ref b821), .val (.ref b826), .val (.ref b835), .val (.ref b848), .val (.ref b865), .unset, .unset] [(.ref b1261)]))
    refine own_astore X1261 hx hby at_418 rfl #[.val (.int x0), .val (.int x1), .val (.int x2), .val (.int x3), .val (.int x4), .val (.int x5), .val (.int (7 : Int32)), .val (.int y0), .val (.int y1), .val (.int y2), .val (.int y3), .val (.int y4), .val (.ref b821), .val (.ref b826), .val (.ref b835), .val (.ref b848), .val (.ref b865), .val (.ref b1261), .unset] rfl rfl ?_
    refine own_aload X1261 hx hby at_420 rfl rfl rfl ?_
    have f1264 := (((((((f866.ext E865).wr W872 ge_b865).wr W875 ge_b865).wr W878 ge_b865).wr W881 ge_b865).wr W884 ge_b865).ext E1261)
    refine own_virtual X1261 hx hby hZ (Cn := "java/lang/String") (a := b1261) (argsL := []) (rest := []) hown (hw _ tw_115) (hw _ tw_48) (hw _ tw_50) (hw _ tw_49) (hw _ tw_3) (hw _ tw_51) (by decide) (rmlength0 l Z a0 hw b1261 h1261 G (f1264).2 A1261 B1261 D1261 V1261) A1261 e1261 (by rw [hml]; rfl) pd_8 rfl (by decide) (W := 0) (Nat.le_refl _) (by decide) (by decide) (by decide) at_422 rfl rfl (fun v1263 T1263 L1263 X1263 hQ1263 => ?_)
    obtain ⟨rfl, rfl, e1263⟩ := hQ1263
    show Ends p.tables e below _ (T1263.setTop (mkF m 425 #[.val (.int x0), .val (.int x1), .val (.int x2), .val (.int x3), .val (.int x4), .val (.int x5), .val (.int (7 : Int32)), .val (.int y0), .val (.int y1), .val (.int y2), .val (.int y3), .val (.int y4), .val (.ref b821), .val (.ref b826), .val (.ref b835), .val (.ref b848), .val (.ref b865), .val (.ref b1261), .unset] [(.int ((128 : Int32) >>> ((0 : Int32) &&& 31)))]))
    show Ends p.tables e below _ (T1263.setTop (mkF m 425 #[.val (.int x0), .val (.int x1), .val (.int x2), .val (.int x3), .val (.int x4), .val (.int x5), .val (.int (7 : Int32)), .val (.int y0), .val (.int y1), .val (.int y2), .val (.int y3), .val (.int y4), .val (.ref b821), .val (.ref b826), .val (.ref b835), .val (.ref b848), .val (.ref b865), .val (.ref b1261), .unset] [(.int (128 : Int32))]))
    refine own_iconst X1263 hx hby at_425 rfl (1 : Int32) rfl ?_
    refine own_icmp_lt X1263 hx hby at_426 (pcY := 444) (pcN := 429) (by decide) rfl (fun (hc1265 : 128 < 1) => False.elim (by exact absurd hc1265 (by decide))) (fun (hc1265 : 1 ≤ 128) => ?_)
    refine own_aload X1263 hx hby at_429 rfl rfl rfl ?_
    refine own_virtual X1263 hx hby hZ (Cn := "java/lang/String") (a := b1261) (argsL := []) (rest := []) hown (hw _ tw_115) (hw _ tw_48) (hw _ tw_50) (hw _ tw_49) (hw _ tw_3) (hw _ tw_51) (by decide) (rmlength0 l Z a0 hw b1261 h1261 G (f1264).2 A1261 B1261 D1261 V1261) A1261 e1263 (by rw [hml]; rfl) pd_8 rfl (by decide) (W := 0) (Nat.le_refl _) (by decide) (by decide) (by decide) at_431 rfl rfl (fun v1266 T1266 L1266 X1266 hQ1266 => ?_)
    obtain ⟨rfl, rfl, e1266⟩ := hQ1266
    show Ends p.tables e below _ (T1266.setTop (mkF m 434 #[.val (.int x0), .val (.int x1), .val (.int x2), .val (.int x3), .val (.int x4), .val (.int x5), .val (.int (7 : Int32)), .val (.int y0), .val (.int y1), .val (.int y2), .val (.int y3), .val (.int y4), .val (.ref b821), .val (.ref b826), .val (.ref b835), .val (.ref b848), .val (.ref b865), .val (.ref b1261), .unset] [(.int ((128 : Int32) >>> ((0 : Int32) &&& 31)))]))
    show Ends p.tables e below _ (T1266.setTop (mkF m 434 #[.val (.int x0), .val (.int x1), .val (.int x2), .val (.int x3), .val (.int x4), .val (.int x5), .val (.int (7 : Int32)), .val (.int y0), .val (.int y1), .val (.int y2), .val (.int y3), .val (.int y4), .val (.ref b821), .val (.ref b826), .val (.ref b835), .val (.ref b848), .val (.ref b865), .val (.ref b1261), .unset] [(.int (128 : Int32))]))
    refine own_sipush X1266 hx hby at_434 rfl (128 : Int32) rfl ?_
    refine own_icmp_gt X1266 hx hby at_437 (pcY := 444) (pcN := 440) (by decide) rfl (fun (hc1267 : 128 < 128) => False.elim (by exact absurd hc1267 (by decide))) (fun (hc1267 : 128 ≤ 128) => ?_)
    refine own_iconst X1266 hx hby at_440 rfl (1 : Int32) rfl ?_
    refine own_goto X1266 hx hby at_441 (pc' := 445) (by decide) ?_
    refine own_istore X1266 hx hby at_445 rfl #[.val (.int x0), .val (.int x1), .val (.int x2), .val (.int x3), .val (.int x4), .val (.int x5), .val (.int (7 : Int32)), .val (.int y0), .val (.int y1), .val (.int y2), .val (.int y3), .val (.int y4), .val (.ref b821), .val (.ref b826), .val (.ref b835), .val (.ref b848), .val (.ref b865), .val (.ref b1261), .val (.int (1 : Int32))] rfl ?_
    refine own_goto X1266 hx hby at_447 (pc' := 481) (by decide) ?_
    refine own_aload X1266 hx hby at_481 rfl rfl rfl ?_
    refine own_static X1266 hx hby hZ (argsL := [(.ref b1261)]) (rest := []) hown (hw _ tw_10) (hw _ tw_11) (hw _ tw_12) (hw _ tw_13) (by decide) (rmv128 l Z a0 hw b1261 h1261 G (f1264).2 A1261 B1261 D1261 V1261) e1266 (by rw [hml]; rfl) pd_17 rfl (by decide) (W := 0) (Nat.le_refl _) (by decide) (by decide) (by decide) at_483 rfl rfl (fun v1268 T1268 L1268 X1268 hQ1268 => ?_)
    obtain ⟨rfl, rfl, e1268⟩ := hQ1268
    show Ends p.tables e below _ (T1268.setTop (mkF m 486 #[.val (.int x0), .val (.int x1), .val (.int x2), .val (.int x3), .val (.int x4), .val (.int x5), .val (.int (7 : Int32)), .val (.int y0), .val (.int y1), .val (.int y2), .val (.int y3), .val (.int y4), .val (.ref b821), .val (.ref b826), .val (.ref b835), .val (.ref b848), .val (.ref b865), .val (.ref b1261), .val (.int (1 : Int32))] [(.int (1 : Int32))]))
    refine own_iload X1268 hx hby at_486 rfl rfl ?_
    refine own_icmp_ne X1268 hx hby at_488 (pcY := 495) (pcN := 491) (by decide) rfl (fun (hc1269 : ¬ (1 : Int32) = (1 : Int32)) => False.elim (by exact absurd hc1269 (by decide))) (fun (hc1269 : (1 : Int32) = (1 : Int32)) => ?_)
    refine own_iconst X1268 hx hby at_491 rfl (1 : Int32) rfl ?_
    refine own_goto X1268 hx hby at_492 (pc' := 496) (by decide) ?_
    refine own_retH X1268 hx hby hret hlk at_496 (.int (1 : Int32)) rfl (Or.inl ⟨rfl, by simp, _, rfl⟩) hZ hEL (by rw [show T1268.heap = _ from e1268, show s.heap = _ from eh]; exact R1261) hS (by rw [show T1268.heap = _ from e1268]; exact hk1261) (by decide) (by decide) ?_
    exact ⟨rfl, (Fr.app (Fr.app (Fr.app N884 (Fr.nil _)) (Fr.nil _)) (Fr.nil _))⟩
  · -- 8
    rw [hz]
    show Ends p.tables e below _ (T884.setTop (mkF m 131 #[.val (.int x0), .val (.int x1), .val (.int x2), .val (.int x3), .val (.int x4), .val (.int x5), .val (.int (8 : Int32)), .val (.int y0), .val (.int y1), .val (.int y2), .val (.int y3), .val (.int y4), .val (.ref b821), .val (.ref b826), .val (.ref b835), .val (.ref b848), .val (.ref b865), .unset, .unset] []))
    refine own_iload X884 hx hby at_131 rfl rfl ?_
    refine own_if_ne X884 hx hby at_133 (pcY := 146) (pcN := 136) (by decide) rfl (fun (hc1270 : ¬ (8 : Int32) = (0 : Int32)) => ?_) (fun (hc1270 : (8 : Int32) = (0 : Int32)) => False.elim (by exact absurd hc1270 (by decide)))
    refine own_iload X884 hx hby at_146 rfl rfl ?_
    refine own_iconst X884 hx hby at_148 rfl (1 : Int32) rfl ?_
    refine own_icmp_ne X884 hx hby at_149 (pcY := 173) (pcN := 152) (by decide) rfl (fun (hc1271 : ¬ (8 : Int32) = (1 : Int32)) => ?_) (fun (hc1271 : (8 : Int32) = (1 : Int32)) => False.elim (by exact absurd hc1271 (by decide)))
    refine own_iload X884 hx hby at_173 rfl rfl ?_
    refine own_iconst X884 hx hby at_175 rfl (2 : Int32) rfl ?_
    refine own_icmp_ne X884 hx hby at_176 (pcY := 216) (pcN := 179) (by decide) rfl (fun (hc1272 : ¬ (8 : Int32) = (2 : Int32)) => ?_) (fun (hc1272 : (8 : Int32) = (2 : Int32)) => False.elim (by exact absurd hc1272 (by decide)))
    refine own_iload X884 hx hby at_216 rfl rfl ?_
    refine own_iconst X884 hx hby at_218 rfl (3 : Int32) rfl ?_
    refine own_icmp_ne X884 hx hby at_219 (pcY := 267) (pcN := 222) (by decide) rfl (fun (hc1273 : ¬ (8 : Int32) = (3 : Int32)) => ?_) (fun (hc1273 : (8 : Int32) = (3 : Int32)) => False.elim (by exact absurd hc1273 (by decide)))
    refine own_iload X884 hx hby at_267 rfl rfl ?_
    refine own_iconst X884 hx hby at_269 rfl (4 : Int32) rfl ?_
    refine own_icmp_ne X884 hx hby at_270 (pcY := 326) (pcN := 273) (by decide) rfl (fun (hc1274 : ¬ (8 : Int32) = (4 : Int32)) => ?_) (fun (hc1274 : (8 : Int32) = (4 : Int32)) => False.elim (by exact absurd hc1274 (by decide)))
    refine own_iload X884 hx hby at_326 rfl rfl ?_
    refine own_iconst X884 hx hby at_328 rfl (5 : Int32) rfl ?_
    refine own_icmp_ne X884 hx hby at_329 (pcY := 393) (pcN := 332) (by decide) rfl (fun (hc1275 : ¬ (8 : Int32) = (5 : Int32)) => ?_) (fun (hc1275 : (8 : Int32) = (5 : Int32)) => False.elim (by exact absurd hc1275 (by decide)))
    refine own_iload X884 hx hby at_393 rfl rfl ?_
    refine own_bipush X884 hx hby at_395 rfl (6 : Int32) rfl ?_
    refine own_icmp_ne X884 hx hby at_397 (pcY := 409) (pcN := 400) (by decide) rfl (fun (hc1276 : ¬ (8 : Int32) = (6 : Int32)) => ?_) (fun (hc1276 : (8 : Int32) = (6 : Int32)) => False.elim (by exact absurd hc1276 (by decide)))
    refine own_iload X884 hx hby at_409 rfl rfl ?_
    refine own_bipush X884 hx hby at_411 rfl (7 : Int32) rfl ?_
    refine own_icmp_ne X884 hx hby at_413 (pcY := 450) (pcN := 416) (by decide) rfl (fun (hc1277 : ¬ (8 : Int32) = (7 : Int32)) => ?_) (fun (hc1277 : (8 : Int32) = (7 : Int32)) => False.elim (by exact absurd hc1277 (by decide)))
    have f1279 := (Nat.le_trans (Nat.le_trans (Nat.le_trans (Nat.le_trans (Nat.le_trans (Nat.le_trans (Nat.le_trans (Nat.le_trans (Nat.le_trans (Nat.le_trans (Nat.le_trans (Nat.le_trans (Nat.le_trans (Nat.le_trans (Nat.le_trans (Nat.le_trans (Nat.le_trans (Nat.le_trans (Nat.le_trans (Nat.le_trans (Nat.le_refl _) E821.1) (Keep.of_wr W824).1) E826.1) (Keep.of_wr W830).1) (Keep.of_wr W833).1) E835.1) (Keep.of_wr W840).1) (Keep.of_wr W843).1) (Keep.of_wr W846).1) E848.1) (Keep.of_wr W854).1) (Keep.of_wr W857).1) (Keep.of_wr W860).1) (Keep.of_wr W863).1) E865.1) (Keep.of_wr W872).1) (Keep.of_wr W875).1) (Keep.of_wr W878).1) (Keep.of_wr W881).1) (Keep.of_wr W884).1)
    refine own_ldcH X884 hx hby hZ hown (hw _ tw_114) (own_satoms hw) e884 hS f1279 hEL (show ("com/example/uni_errors/unierrors/CorrelationHeadersIsValidIdPinLaw", (27 : Nat)) ∈ consts_1 by decide) f885.1 own_v129 (129 : Int32) (by decide +kernel) (by decide) (by decide +kernel) 516 (by decide +kernel) (by decide) (by decide) (by decide) at_450 rfl (fun b1278 T1278 h1278 k1278 c1278 j1278 X1278 e1278 E1278 hS hk1278 hZ hown A1278 B1278 D1278 V1278 C1278 S1278 => ?_)
    have R1278 := f885.trans C1278
    show Ends p.tables e below _ (T1278.setTop (mkF m 452 #[.val (.int x0), .val (.int x1), .val (.int x2), .val (.int x3), .val (.int x4), .val (.int x5), .val (.int (8 : Int32)), .val (.int y0), .val (.int y1), .val (.int y2), .val (.int y3), .val (.int y4), .val (.ref b821), .val (.ref b826), .val (.ref b835), .val (.ref b848), .val (.ref b865), .unset, .unset] [(.ref b1278)]))
    refine own_astore X1278 hx hby at_452 rfl #[.val (.int x0), .val (.int x1), .val (.int x2), .val (.int x3), .val (.int x4), .val (.int x5), .val (.int (8 : Int32)), .val (.int y0), .val (.int y1), .val (.int y2), .val (.int y3), .val (.int y4), .val (.ref b821), .val (.ref b826), .val (.ref b835), .val (.ref b848), .val (.ref b865), .val (.ref b1278), .unset] rfl rfl ?_
    refine own_aload X1278 hx hby at_454 rfl rfl rfl ?_
    have f1281 := (((((((f866.ext E865).wr W872 ge_b865).wr W875 ge_b865).wr W878 ge_b865).wr W881 ge_b865).wr W884 ge_b865).ext E1278)
    refine own_virtual X1278 hx hby hZ (Cn := "java/lang/String") (a := b1278) (argsL := []) (rest := []) hown (hw _ tw_115) (hw _ tw_48) (hw _ tw_50) (hw _ tw_49) (hw _ tw_3) (hw _ tw_51) (by decide) (rmlength0 l Z a0 hw b1278 h1278 G (f1281).2 A1278 B1278 D1278 V1278) A1278 e1278 (by rw [hml]; rfl) pd_8 rfl (by decide) (W := 0) (Nat.le_refl _) (by decide) (by decide) (by decide) at_456 rfl rfl (fun v1280 T1280 L1280 X1280 hQ1280 => ?_)
    obtain ⟨rfl, rfl, e1280⟩ := hQ1280
    show Ends p.tables e below _ (T1280.setTop (mkF m 459 #[.val (.int x0), .val (.int x1), .val (.int x2), .val (.int x3), .val (.int x4), .val (.int x5), .val (.int (8 : Int32)), .val (.int y0), .val (.int y1), .val (.int y2), .val (.int y3), .val (.int y4), .val (.ref b821), .val (.ref b826), .val (.ref b835), .val (.ref b848), .val (.ref b865), .val (.ref b1278), .unset] [(.int ((129 : Int32) >>> ((0 : Int32) &&& 31)))]))
    show Ends p.tables e below _ (T1280.setTop (mkF m 459 #[.val (.int x0), .val (.int x1), .val (.int x2), .val (.int x3), .val (.int x4), .val (.int x5), .val (.int (8 : Int32)), .val (.int y0), .val (.int y1), .val (.int y2), .val (.int y3), .val (.int y4), .val (.ref b821), .val (.ref b826), .val (.ref b835), .val (.ref b848), .val (.ref b865), .val (.ref b1278), .unset] [(.int (129 : Int32))]))
    refine own_iconst X1280 hx hby at_459 rfl (1 : Int32) rfl ?_
    refine own_icmp_lt X1280 hx hby at_460 (pcY := 478) (pcN := 463) (by decide) rfl (fun (hc1282 : 129 < 1) => False.elim (by exact absurd hc1282 (by decide))) (fun (hc1282 : 1 ≤ 129) => ?_)
    refine own_aload X1280 hx hby at_463 rfl rfl rfl ?_
    refine own_virtual X1280 hx hby hZ (Cn := "java/lang/String") (a := b1278) (argsL := []) (rest := []) hown (hw _ tw_115) (hw _ tw_48) (hw _ tw_50) (hw _ tw_49) (hw _ tw_3) (hw _ tw_51) (by decide) (rmlength0 l Z a0 hw b1278 h1278 G (f1281).2 A1278 B1278 D1278 V1278) A1278 e1280 (by rw [hml]; rfl) pd_8 rfl (by decide) (W := 0) (Nat.le_refl _) (by decide) (by decide) (by decide) at_465 rfl rfl (fun v1283 T1283 L1283 X1283 hQ1283 => ?_)
    obtain ⟨rfl, rfl, e1283⟩ := hQ1283
    show Ends p.tables e below _ (T1283.setTop (mkF m 468 #[.val (.int x0), .val (.int x1), .val (.int x2), .val (.int x3), .val (.int x4), .val (.int x5), .val (.int (8 : Int32)), .val (.int y0), .val (.int y1), .val (.int y2), .val (.int y3), .val (.int y4), .val (.ref b821), .val (.ref b826), .val (.ref b835), .val (.ref b848), .val (.ref b865), .val (.ref b1278), .unset] [(.int ((129 : Int32) >>> ((0 : Int32) &&& 31)))]))
    show Ends p.tables e below _ (T1283.setTop (mkF m 468 #[.val (.int x0), .val (.int x1), .val (.int x2), .val (.int x3), .val (.int x4), .val (.int x5), .val (.int (8 : Int32)), .val (.int y0), .val (.int y1), .val (.int y2), .val (.int y3), .val (.int y4), .val (.ref b821), .val (.ref b826), .val (.ref b835), .val (.ref b848), .val (.ref b865), .val (.ref b1278), .unset] [(.int (129 : Int32))]))
    refine own_sipush X1283 hx hby at_468 rfl (128 : Int32) rfl ?_
    refine own_icmp_gt X1283 hx hby at_471 (pcY := 478) (pcN := 474) (by decide) rfl (fun (hc1284 : 128 < 129) => ?_) (fun (hc1284 : 129 ≤ 128) => False.elim (by exact absurd hc1284 (by decide)))
    refine own_iconst X1283 hx hby at_478 rfl (0 : Int32) rfl ?_
    refine own_istore X1283 hx hby at_479 rfl #[.val (.int x0), .val (.int x1), .val (.int x2), .val (.int x3), .val (.int x4), .val (.int x5), .val (.int (8 : Int32)), .val (.int y0), .val (.int y1), .val (.int y2), .val (.int y3), .val (.int y4), .val (.ref b821), .val (.ref b826), .val (.ref b835), .val (.ref b848), .val (.ref b865), .val (.ref b1278), .val (.int (0 : Int32))] rfl ?_
    refine own_aload X1283 hx hby at_481 rfl rfl rfl ?_
    refine own_static X1283 hx hby hZ (argsL := [(.ref b1278)]) (rest := []) hown (hw _ tw_10) (hw _ tw_11) (hw _ tw_12) (hw _ tw_13) (by decide) (rmv129 l Z a0 hw b1278 h1278 G (f1281).2 A1278 B1278 D1278 V1278) e1283 (by rw [hml]; rfl) pd_17 rfl (by decide) (W := 0) (Nat.le_refl _) (by decide) (by decide) (by decide) at_483 rfl rfl (fun v1285 T1285 L1285 X1285 hQ1285 => ?_)
    obtain ⟨rfl, rfl, e1285⟩ := hQ1285
    show Ends p.tables e below _ (T1285.setTop (mkF m 486 #[.val (.int x0), .val (.int x1), .val (.int x2), .val (.int x3), .val (.int x4), .val (.int x5), .val (.int (8 : Int32)), .val (.int y0), .val (.int y1), .val (.int y2), .val (.int y3), .val (.int y4), .val (.ref b821), .val (.ref b826), .val (.ref b835), .val (.ref b848), .val (.ref b865), .val (.ref b1278), .val (.int (0 : Int32))] [(.int (0 : Int32))]))
    refine own_iload X1285 hx hby at_486 rfl rfl ?_
    refine own_icmp_ne X1285 hx hby at_488 (pcY := 495) (pcN := 491) (by decide) rfl (fun (hc1286 : ¬ (0 : Int32) = (0 : Int32)) => False.elim (by exact absurd hc1286 (by decide))) (fun (hc1286 : (0 : Int32) = (0 : Int32)) => ?_)
    refine own_iconst X1285 hx hby at_491 rfl (1 : Int32) rfl ?_
    refine own_goto X1285 hx hby at_492 (pc' := 496) (by decide) ?_
    refine own_retH X1285 hx hby hret hlk at_496 (.int (1 : Int32)) rfl (Or.inl ⟨rfl, by simp, _, rfl⟩) hZ hEL (by rw [show T1285.heap = _ from e1285, show s.heap = _ from eh]; exact R1278) hS (by rw [show T1285.heap = _ from e1285]; exact hk1278) (by decide) (by decide) ?_
    exact ⟨rfl, (Fr.app (Fr.app (Fr.app N884 (Fr.nil _)) (Fr.nil _)) (Fr.nil _))⟩
set_option maxRecDepth 65536 in
set_option maxHeartbeats 40000000 in
theorem comes_1 {Post : Tables → Env → Array Value → State → Outcome → State → Prop} (hpost : ∀ tb e args s v u, (limb_1_1.after args s (.returned v) u = true ∧ limb_1_2.after args s (.returned v) u = true ∧ True) → ReturnedEndW s (.returned v) u (Jvm.fieldLocs frame_1_writes args s ++ Jvm.arrayLocs frame_1_arrays args s ++ Jvm.staticLocs frame_1_statics s) 32 3264 → Post tb e args s (.returned v) u) :
    ArmFor flags0 classFile x code maxLocals ret World_1 tables_1 room_1 Calls_1 rest_1 Pre_1 Post := by
  intro l hfl _ _ p e ha hc hk s m args below hf hA hF happ hP
  obtain ⟨hcalls, hrest, hpre⟩ := hP
  obtain ⟨-, -, -, hnamed, -, -, -, hat⟩ := (Spec.applies_iff hf).mp happ
  obtain ⟨hg, hn⟩ := and_e (Cond.before_iff.mp (show (Jvm.Cond.and given_1 narrow_1).before args s = true from hpre))
  obtain ⟨hcount, hg0⟩ := and_e hg
  obtain ⟨hv0, hg1⟩ := and_e hg0
  obtain ⟨hv1, hg2⟩ := and_e hg1
  obtain ⟨hv2, hg3⟩ := and_e hg2
  obtain ⟨hv3, hg4⟩ := and_e hg3
  obtain ⟨hv4, hg5⟩ := and_e hg4
  have hv5 := hg5
  obtain ⟨w0, w1, w2, w3, w4, w5, rfl⟩ : ∃ w0 w1 w2 w3 w4 w5 : Value, args = #[w0, w1, w2, w3, w4, w5] := by
    have hs : args.size = 6 := by simpa [Cond.value, given_1] using hcount
    obtain ⟨L⟩ := args
    match L, hs with
    | [w0, w1, w2, w3, w4, w5], _ => exact ⟨w0, w1, w2, w3, w4, w5, rfl⟩
  have hw := fun d (hd : d ∈ tables_1) => atoms_spec (ws := Jvm.Cond.code x code maxLocals ret :: tables_1) hat d (List.mem_cons_of_mem _ hd)
  have hfit : Fit s := fun {y c} hc i hi => by
    obtain ⟨ha, rfl⟩ := Array.getElem?_eq_some_iff.mp hc
    have q := List.all_eq_true.mp ((Array.all_eq_true_iff_forall_mem.mp hF) _ (Array.getElem_mem ha)) i (List.mem_range.mpr hi)
    simpa [Array.getElem?_eq_getElem hi] using q
  obtain ⟨hsets, hown0⟩ := atoms_of _ (rest_1_c_eq ▸ (show rest_1_c.before _ s = true from hrest))
  have hr0 := Cond.before_iff.mp hown0
  obtain ⟨i0, ei0⟩ := is_v hv0
  obtain rfl : w0 = (.int i0) := Option.some.inj ei0
  obtain ⟨i1, ei1⟩ := is_v hv1
  obtain rfl : w1 = (.int i1) := Option.some.inj ei1
  obtain ⟨i2, ei2⟩ := is_v hv2
  obtain rfl : w2 = (.int i2) := Option.some.inj ei2
  obtain ⟨i3, ei3⟩ := is_v hv3
  obtain rfl : w3 = (.int i3) := Option.some.inj ei3
  obtain ⟨i4, ei4⟩ := is_v hv4
  obtain rfl : w4 = (.int i4) := Option.some.inj ei4
  obtain ⟨i5, ei5⟩ := is_v hv5
  obtain rfl : w5 = (.int i5) := Option.some.inj ei5
  have hcs1 := Cond.before_iff.mp (hsets _ (List.mem_of_getElem? (i := 1) rfl))
  obtain ⟨ks, eks⟩ := is_v hcs1
  have hnz := hsets _ (List.mem_of_getElem? (i := 2) rfl)
  have hks : ¬ (ks = (0 : Int32)) := gotF (Cond.eq_ints eks (Term.int_eval (0))) (not_v (Cond.before_iff.mp hnz))
  have CS : Sta s s.heap "java/lang/String" "COMPACT_STRINGS" "Z" (.int ks) := Sta.start eks (Or.inl (hsets _ (List.mem_of_getElem? (i := 0) rfl)))
  obtain ⟨fm, efm, hfm⟩ := isR_v (Cond.before_iff.mp (hsets _ (List.mem_of_getElem? (i := 8) rfl)))
  have FS : Sta s s.heap "jdk/internal/util/Preconditions" "SIOOBE_FORMATTER" "Ljava/util/function/BiFunction;" fm := Sta.start efm (Or.inl (hsets _ (List.mem_of_getElem? (i := 7) rfl)))
  have AD : Sta s s.heap "java/lang/StringUTF16" "$assertionsDisabled" "Z" (.int (1 : Int32)) := Sta.start (eqv_i (Term.int_eval _) (Cond.before_iff.mp (hsets _ (List.mem_of_getElem? (i := 12) rfl)))) (Or.inl (hsets _ (List.mem_of_getElem? (i := 11) rfl)))
  have HB : Sta s s.heap "java/lang/StringUTF16" "HI_BYTE_SHIFT" "I" (.int (0 : Int32)) := Sta.start (eqv_i (Term.int_eval _) (Cond.before_iff.mp (hsets _ (List.mem_of_getElem? (i := 15) rfl)))) (Or.inl (hsets _ (List.mem_of_getElem? (i := 14) rfl)))
  have LB : Sta s s.heap "java/lang/StringUTF16" "LO_BYTE_SHIFT" "I" (.int (8 : Int32)) := Sta.start (eqv_i (Term.int_eval _) (Cond.before_iff.mp (hsets _ (List.mem_of_getElem? (i := 18) rfl)))) (Or.inl (hsets _ (List.mem_of_getElem? (i := 17) rfl)))
  have hEL : EW s #[(.int i0), (.int i1), (.int i2), (.int i3), (.int i4), (.int i5)] consts_1 := EW.cons (hw _ tw_2) (by decide +kernel) (EW.cons (hw _ tw_116) (by decide +kernel) (EW.cons (hw _ tw_114) (by decide +kernel) EW.nil))
  have hH0 : CHv s consts_1 s.vm s.heap := CHv.start hEL hcalls.1 hnz (hw _ tw_5) (hw _ tw_4)
  obtain ⟨n, o, h1, h2, h3, _, L, rfl, ⟨rfl, N⟩, -, hq⟩ := rm0 l s _ hw i0 i1 i2 i3 i4 i5 s.heap s.heap.size hEL ⟨hks, hfm, CS, FS, AD, HB, LB⟩ (Old.start s) p e ha hc hk s m _ below hf ((Spec.applies_iff_loose hf).mp happ).1 ⟨rfl, State.Warmed39.refl s, rfl, hH0, fun _ q => nomatch q⟩ trivial
  refine ⟨n, _, h1, h2, h3, hpost _ _ _ _ _ _ ⟨Cond.after_iff.mpr rfl, Cond.after_iff.mpr (eq_i res_at (Term.int_eval (1)) rfl), trivial⟩ ⟨hq.1, hq.2.1, hq.2.2.1, (hq.2.2.2.sift fun y hy => Or.inr (N y hy)).mono (by decide) (by decide)⟩⟩
theorem main_1_1 : Claimed_1_1 := comes_1 fun _ _ _ _ _ _ h hF => ⟨h.1, hF⟩
theorem main_1_2 : Claimed_1_2 := comes_1 fun _ _ _ _ _ _ h hF => ⟨h.2.1, hF⟩
end Jvm.Pilot.@@N@@
namespace Jvm.Pilot.@@N@@
open Jvm Jvm.ClassFile Sem Op Lib Jvm.Free Jvm.Stand Jvm.Pilot.@@N@@.Jvm.D
/-! MADE BY PROGRAM (witnessworld.py) out of the Statement's table words and the real class files: 20 classes; the members and pool entries that the words name. The judged class is class 1, her method 2. -/
namespace start1
open Jvm.ClassFile
def u (s : String) : CpInfo := .utf8 (stringToUtf16 s)
/-- a pool by its gaps: so many unusable entries, then the entry; so many at the end -/
def gap : Nat → List CpInfo → List CpInfo
  | 0, r => r
  | n + 1, r => .unusable :: gap n r
def poolList (es : List (Nat × CpInfo)) (last : Nat) : List CpInfo := es.foldr (fun e r => gap e.1 (e.2 :: r)) (gap last [])
def pool (es : List (Nat × CpInfo)) (last : Nat) : Array CpInfo := ⟨poolList es last⟩
def fileOf (pool : Array CpInfo) (this : Nat) (attrs : Array Attribute := #[]) (ms : Array MethodInfo := #[]) (fl : Nat := 33) (sup : Nat := 0) (ifs : Array Nat := #[]) (fds : Array FieldInfo := #[]) : ClassFile where
  minorVersion := 0
  majorVersion := 65
  constantPool := pool
  accessFlags := fl
  thisClass := this
  superClass := sup
  interfaces := ifs
  fields := fds
  methods := ms
  attributes := attrs
def plain (name : String) (sup : Option ClassId) : Class where
  name := name
  kind := .ordinary
  loader := none
  accessFlags := 33
  super := sup
  interfaces := #[]
  cf := none
  fields := #[]
  methods := #[]
  instanceTypes := #[]
  staticTypes := #[]
  resolved := #[]
  callSites := []
  init := .initialized
  statics := none
  mirror := none

def pool0 : Array CpInfo := pool [(5, u "<init>"), (0, u "()V"), (1, .class_ 10), (1, u "java/lang/Object")] 113

def k0c0 : Code := { maxStack := 0, maxLocals := 1, code := object_method_1_code, exceptionTable := #[], attributes := #[] }
def k0m0 : Method := { name := "<init>", desc := "()V", sig := { parameters := [], returnType := none }, accessFlags := 1, code := some k0c0 }
/-- java/lang/Object -/
def k0 : Class := { plain "java/lang/Object" none with
  accessFlags := 33
  interfaces := #[]
  cf := some (fileOf pool0 8 #[] #[{ accessFlags := 1, nameIndex := 5, descriptorIndex := 6, attributes := #[] }] 33 0 #[] #[])
  fields := #[]
  methods := #[k0m0]
  instanceTypes := #[]
  staticTypes := #[]
  resolved := Array.replicate 124 none
  statics := none }

def pool1 : Array CpInfo := pool [(2, .class_ 4), (1, u "java/lang/Object"), (0, u "<init>"), (0, u "()V"), (0, .integer 2147483647), (0, .string 9), (0, u ""), (0, .class_ 11), (0, u "java/lang/String"), (0, .methodref 10 13), (0, .nameAndType 5 14), (0, u "([C)V"), (0, .methodref 16 17), (0, .class_ 18), (0, .nameAndType 19 20), (0, u "com/example/uni_errors/unierrors/CorrelationHeadersIsValidIdPinLaw"), (0, u "ok"), (0, u "(C)Z"), (0, .string 22), (0, u "0123456789abcdefghijklmnopqrstuvwxyzABCDEFGHIJKLMNOPQRSTUVWXYZ._:-0123456789abcdefghijklmnopqrstuvwxyzABCDEFGHIJKLMNOPQRSTUVWXYZ"), (0, .methodref 10 24), (0, .nameAndType 25 26), (0, u "length"), (0, u "()I"), (0, .string 28), (0, u "0123456789abcdefghijklmnopqrstuvwxyzABCDEFGHIJKLMNOPQRSTUVWXYZ._:-0123456789abcdefghijklmnopqrstuvwxyzABCDEFGHIJKLMNOPQRSTUVWXYZa"), (0, .methodref 30 31), (0, .class_ 32), (0, .nameAndType 33 34), (0, u "com/example/uni_errors/unierrors/CorrelationHeaders"), (0, u "isValidId"), (0, u "(Ljava/lang/String;)Z"), (3, u "law"), (0, u "(IIIIII)Z")] 4

def k1m0 : Method := { name := "<init>", desc := "()V", sig := { parameters := [], returnType := none }, accessFlags := 1, code := none }
def k1c1 : Code := { maxStack := 2, maxLocals := 1, code := method_2_code, exceptionTable := #[], attributes := #[] }
def k1m1 : Method := { name := "ok", desc := "(C)Z", sig := { parameters := [.char], returnType := some .boolean }, accessFlags := 10, code := some k1c1 }
def k1c2 : Code := { maxStack := 4, maxLocals := 19, code := code, exceptionTable := #[], attributes := #[] }
def k1m2 : Method := { name := "law", desc := "(IIIIII)Z", sig := { parameters := [.int, .int, .int, .int, .int, .int], returnType := some .boolean }, accessFlags := 9, code := some k1c2 }
/-- com/example/uni_errors/unierrors/CorrelationHeadersIsValidIdPinLaw -/
def k1 : Class := { plain "com/example/uni_errors/unierrors/CorrelationHeadersIsValidIdPinLaw" (some 0) with
  accessFlags := 49
  interfaces := #[]
  cf := some (fileOf pool1 16 #[] #[{ accessFlags := 1, nameIndex := 5, descriptorIndex := 6, attributes := #[] }, { accessFlags := 10, nameIndex := 19, descriptorIndex := 20, attributes := #[] }, { accessFlags := 9, nameIndex := 38, descriptorIndex := 39, attributes := #[] }] 49 2 #[] #[])
  fields := #[]
  methods := #[k1m0, k1m1, k1m2]
  instanceTypes := #[]
  staticTypes := #[]
  resolved := Array.replicate 44 none
  statics := none }

def pool2 : Array CpInfo := pool [(1, .class_ 2), (0, u "java/io/Serializable"), (0, .class_ 4), (0, u "java/lang/Object")] 2

/-- java/io/Serializable -/
def k2 : Class := { plain "java/io/Serializable" (some 0) with
  accessFlags := 1537
  interfaces := #[]
  cf := some (fileOf pool2 1 #[] #[] 1537 3 #[] #[])
  fields := #[]
  methods := #[]
  instanceTypes := #[]
  staticTypes := #[]
  resolved := Array.replicate 7 none
  statics := none }

def pool3 : Array CpInfo := pool [(1, .class_ 2), (0, u "java/lang/Comparable"), (0, .class_ 4), (0, u "java/lang/Object")] 7

/-- java/lang/Comparable -/
def k3 : Class := { plain "java/lang/Comparable" (some 0) with
  accessFlags := 1537
  interfaces := #[]
  cf := some (fileOf pool3 1 #[] #[] 1537 3 #[] #[])
  fields := #[]
  methods := #[]
  instanceTypes := #[]
  staticTypes := #[]
  resolved := Array.replicate 12 none
  statics := none }

def pool4 : Array CpInfo := pool [(2, .class_ 4), (1, u "java/lang/CharSequence"), (42, .class_ 48), (0, u "java/lang/CharSequence$1CodePointIterator"), (10, .class_ 60), (0, u "java/lang/CharSequence$1CharIterator"), (5, .class_ 67), (0, u "java/lang/Object")] 63

/-- java/lang/CharSequence -/
def k4 : Class := { plain "java/lang/CharSequence" (some 0) with
  accessFlags := 1537
  interfaces := #[]
  cf := some (fileOf pool4 2 #[.nestMembers #[47, 59]] #[] 1537 66 #[] #[])
  fields := #[]
  methods := #[]
  instanceTypes := #[]
  staticTypes := #[]
  resolved := Array.replicate 131 none
  statics := none }

def pool5 : Array CpInfo := pool [(1, .class_ 2), (0, u "java/lang/constant/Constable"), (0, .class_ 4), (0, u "java/lang/Object")] 6

/-- java/lang/constant/Constable -/
def k5 : Class := { plain "java/lang/constant/Constable" (some 0) with
  accessFlags := 1537
  interfaces := #[]
  cf := some (fileOf pool5 1 #[] #[] 1537 3 #[] #[])
  fields := #[]
  methods := #[]
  instanceTypes := #[]
  staticTypes := #[]
  resolved := Array.replicate 11 none
  statics := none }

def pool6 : Array CpInfo := pool [(1, .class_ 2), (0, u "java/lang/constant/ConstantDesc"), (0, .class_ 4), (0, u "java/lang/Object")] 32

/-- java/lang/constant/ConstantDesc -/
def k6 : Class := { plain "java/lang/constant/ConstantDesc" (some 0) with
  accessFlags := 1537
  interfaces := #[]
  cf := some (fileOf pool6 1 #[] #[] 1537 3 #[] #[])
  fields := #[]
  methods := #[]
  instanceTypes := #[]
  staticTypes := #[]
  resolved := Array.replicate 37 none
  statics := none }

def pool7 : Array CpInfo := pool [(1, .methodref 2 3), (0, .class_ 4), (0, .nameAndType 5 6), (0, u "java/lang/Object"), (0, u "<init>"), (0, u "()V"), (2, .fieldref 10 11), (0, .class_ 12), (0, .nameAndType 13 14), (0, u "java/lang/String"), (0, u "value"), (0, u "[B"), (0, .fieldref 10 16), (0, .nameAndType 17 18), (0, u "coder"), (0, u "B"), (2, u "hash"), (0, u "I"), (2, u "hashIsZero"), (0, u "Z"), (0, .methodref 10 28), (0, .nameAndType 5 29), (0, u "([CIILjava/lang/Void;)V"), (8, .fieldref 10 39), (0, .nameAndType 40 26), (0, u "COMPACT_STRINGS"), (1, .class_ 44), (1, u "java/lang/StringUTF16"), (0, u "compress"), (1, .methodref 42 48), (0, .nameAndType 49 50), (0, u "coderFromArrayLen"), (0, u "([BI)B"), (56, .class_ 109), (1, u "java/lang/StringLatin1"), (32, u "()Z"), (34, .methodref 42 178), (0, .nameAndType 45 179), (0, u "([CII)[B"), (154, u "()I"), (0, .methodref 10 336), (0, .nameAndType 17 337), (0, u "()B"), (25, u "([BI)C"), (27, u "(II)V"), (35, u "(I)C"), (64, .methodref 10 493), (0, .nameAndType 494 142), (0, u "isLatin1"), (0, .methodref 107 496), (0, .nameAndType 497 363), (0, u "charAt"), (0, .methodref 42 496), (2, u "checkIndex"), (5, u "length"), (67, .class_ 576), (0, u "java/lang/CharSequence"), (22, u "CASE_INSENSITIVE_ORDER"), (0, u "Ljava/util/Comparator;"), (91, u "isEmpty"), (317, u "([C)V"), (42, .fieldref 1054 1055), (0, .class_ 1056), (0, .nameAndType 1057 1058), (0, u "jdk/internal/util/Preconditions"), (0, u "SIOOBE_FORMATTER"), (0, u "Ljava/util/function/BiFunction;"), (0, .methodref 1054 1060), (0, .nameAndType 501 1061), (0, u "(IILjava/util/function/BiFunction;)I"), (39, u "serialPersistentFields"), (0, u "[Ljava/io/ObjectStreamField;"), (0, .class_ 1104), (0, u "java/lang/String$CaseInsensitiveComparator"), (1, .class_ 1107), (0, u "java/io/Serializable"), (0, .class_ 1109), (0, u "java/lang/Comparable"), (0, .class_ 1111), (0, u "java/lang/constant/Constable"), (0, .class_ 1113), (0, u "java/lang/constant/ConstantDesc"), (2, u "serialVersionUID"), (0, u "J"), (3, u "REPL"), (0, u "C"), (2, u "LATIN1"), (1, u "UTF16")] 323

def k7m0 : Method := { name := "<init>", desc := "()V", sig := { parameters := [], returnType := none }, accessFlags := 1, code := none }
def k7c1 : Code := { maxStack := 5, maxLocals := 2, code := jdk_42_method_3_code, exceptionTable := #[], attributes := #[] }
def k7m1 : Method := { name := "<init>", desc := "([C)V", sig := { parameters := [(.array .char)], returnType := none }, accessFlags := 1, code := some k7c1 }
def k7c2 : Code := { maxStack := 2, maxLocals := 1, code := jdk_42_method_54_code, exceptionTable := #[], attributes := #[] }
def k7m2 : Method := { name := "length", desc := "()I", sig := { parameters := [], returnType := some .int }, accessFlags := 1, code := some k7c2 }
def k7c3 : Code := { maxStack := 1, maxLocals := 1, code := jdk_42_method_55_code, exceptionTable := #[], attributes := #[] }
def k7m3 : Method := { name := "isEmpty", desc := "()Z", sig := { parameters := [], returnType := some .boolean }, accessFlags := 1, code := some k7c3 }
def k7c4 : Code := { maxStack := 2, maxLocals := 2, code := jdk_42_method_56_code, exceptionTable := #[], attributes := #[] }
def k7m4 : Method := { name := "charAt", desc := "(I)C", sig := { parameters := [.int], returnType := some .char }, accessFlags := 1, code := some k7c4 }
def k7c5 : Code := { maxStack := 4, maxLocals := 6, code := jdk_42_method_149_code, exceptionTable := #[], attributes := #[] }
def k7m5 : Method := { name := "<init>", desc := "([CIILjava/lang/Void;)V", sig := { parameters := [(.array .char), .int, .int, (.object "java/lang/Void")], returnType := none }, accessFlags := 2, code := some k7c5 }
def k7c6 : Code := { maxStack := 1, maxLocals := 1, code := jdk_42_method_152_code, exceptionTable := #[], attributes := #[] }
def k7m6 : Method := { name := "coder", desc := "()B", sig := { parameters := [], returnType := some .byte }, accessFlags := 0, code := some k7c6 }
def k7c7 : Code := { maxStack := 1, maxLocals := 1, code := jdk_42_method_154_code, exceptionTable := #[], attributes := #[] }
def k7m7 : Method := { name := "isLatin1", desc := "()Z", sig := { parameters := [], returnType := some .boolean }, accessFlags := 0, code := some k7c7 }
def k7c8 : Code := { maxStack := 3, maxLocals := 2, code := jdk_42_method_155_code, exceptionTable := #[], attributes := #[] }
def k7m8 : Method := { name := "checkIndex", desc := "(II)V", sig := { parameters := [.int, .int], returnType := none }, accessFlags := 8, code := some k7c8 }
/-- java/lang/String -/
def k7 : Class := { plain "java/lang/String" (some 0) with
  accessFlags := 49
  interfaces := #[2, 3, 4, 5, 6]
  cf := some (fileOf pool7 10 #[.nestMembers #[1103]] #[{ accessFlags := 1, nameIndex := 5, descriptorIndex := 6, attributes := #[] }, { accessFlags := 1, nameIndex := 5, descriptorIndex := 1010, attributes := #[] }, { accessFlags := 1, nameIndex := 507, descriptorIndex := 334, attributes := #[] }, { accessFlags := 1, nameIndex := 692, descriptorIndex := 142, attributes := #[] }, { accessFlags := 1, nameIndex := 497, descriptorIndex := 427, attributes := #[] }, { accessFlags := 2, nameIndex := 5, descriptorIndex := 29, attributes := #[] }, { accessFlags := 0, nameIndex := 17, descriptorIndex := 337, attributes := #[] }, { accessFlags := 0, nameIndex := 494, descriptorIndex := 142, attributes := #[] }, { accessFlags := 8, nameIndex := 501, descriptorIndex := 391, attributes := #[] }] 49 2 #[1106, 1108, 575, 1110, 1112] #[{ accessFlags := 18, nameIndex := 13, descriptorIndex := 14, attributes := #[] }, { accessFlags := 18, nameIndex := 17, descriptorIndex := 18, attributes := #[] }, { accessFlags := 2, nameIndex := 21, descriptorIndex := 22, attributes := #[] }, { accessFlags := 2, nameIndex := 25, descriptorIndex := 26, attributes := #[] }, { accessFlags := 26, nameIndex := 1116, descriptorIndex := 1117, attributes := #[] }, { accessFlags := 24, nameIndex := 40, descriptorIndex := 26, attributes := #[] }, { accessFlags := 26, nameIndex := 1101, descriptorIndex := 1102, attributes := #[] }, { accessFlags := 26, nameIndex := 1121, descriptorIndex := 1122, attributes := #[] }, { accessFlags := 25, nameIndex := 599, descriptorIndex := 600, attributes := #[] }, { accessFlags := 24, nameIndex := 1125, descriptorIndex := 18, attributes := #[] }, { accessFlags := 24, nameIndex := 1127, descriptorIndex := 18, attributes := #[] }])
  fields := #[{ name := "value", type := (.array .byte), accessFlags := 18, slot := 0, constantValue := 0 }, { name := "coder", type := .byte, accessFlags := 18, slot := 1, constantValue := 0 }, { name := "hash", type := .int, accessFlags := 2, slot := 2, constantValue := 0 }, { name := "hashIsZero", type := .boolean, accessFlags := 2, slot := 3, constantValue := 0 }, { name := "serialVersionUID", type := .long, accessFlags := 26, slot := 0, constantValue := 0 }, { name := "COMPACT_STRINGS", type := .boolean, accessFlags := 24, slot := 1, constantValue := 0 }, { name := "serialPersistentFields", type := (.array (.object "java/io/ObjectStreamField")), accessFlags := 26, slot := 2, constantValue := 0 }, { name := "REPL", type := .char, accessFlags := 26, slot := 3, constantValue := 0 }, { name := "CASE_INSENSITIVE_ORDER", type := (.object "java/util/Comparator"), accessFlags := 25, slot := 4, constantValue := 0 }, { name := "LATIN1", type := .byte, accessFlags := 24, slot := 5, constantValue := 0 }, { name := "UTF16", type := .byte, accessFlags := 24, slot := 6, constantValue := 0 }]
  methods := #[k7m0, k7m1, k7m2, k7m3, k7m4, k7m5, k7m6, k7m7, k7m8]
  instanceTypes := #[(.array .byte), .byte, .int, .boolean]
  staticTypes := #[.long, .boolean, (.array (.object "java/io/ObjectStreamField")), .char, (.object "java/util/Comparator"), .byte, .byte]
  resolved := Array.replicate 1451 none
  statics := some 0 }

def pool8 : Array CpInfo := pool [(2, .class_ 4), (1, u "java/lang/Object"), (3, .class_ 10), (1, u "com/example/uni_errors/unierrors/CorrelationHeaders"), (0, u "idHeaders"), (0, u "Ljava/util/List;"), (2, u "readsTraceparent"), (0, u "Z"), (2, u "answerHeader"), (0, u "Ljava/lang/String;"), (2, u "DUAL"), (0, u "Lcom/example/uni_errors/unierrors/CorrelationHeaders;"), (8, .methodref 34 35), (0, .class_ 36), (0, .nameAndType 37 38), (0, u "java/lang/String"), (0, u "isEmpty"), (0, u "()Z"), (53, u "isValidId"), (0, u "(Ljava/lang/String;)Z"), (38, .methodref 34 133), (0, .nameAndType 134 135), (0, u "length"), (0, u "()I"), (0, .methodref 34 137), (0, .nameAndType 138 139), (0, u "charAt"), (0, u "(I)C"), (0, .methodref 8 141), (0, .nameAndType 142 143), (0, u "idChar"), (0, u "(I)Z"), (2, u "TRACEPARENT_00"), (0, u "Ljava/util/regex/Pattern;"), (23, .methodref 8 172), (0, .nameAndType 173 143), (0, u "asciiLetterOrDigit"), (28, u "REQUEST_ID"), (1, u "CORRELATION_ID"), (0, u "TRACEPARENT"), (0, u "LONGEST_ID"), (0, u "I"), (1, u "TOKEN_SYMBOLS")] 60

def k8c0 : Code := { maxStack := 2, maxLocals := 2, code := prog_5_method_6_code, exceptionTable := #[], attributes := #[] }
def k8m0 : Method := { name := "isValidId", desc := "(Ljava/lang/String;)Z", sig := { parameters := [(.object "java/lang/String")], returnType := some .boolean }, accessFlags := 9, code := some k8c0 }
def k8c1 : Code := { maxStack := 2, maxLocals := 1, code := prog_5_method_8_code, exceptionTable := #[], attributes := #[] }
def k8m1 : Method := { name := "idChar", desc := "(I)Z", sig := { parameters := [.int], returnType := some .boolean }, accessFlags := 10, code := some k8c1 }
def k8c2 : Code := { maxStack := 2, maxLocals := 1, code := prog_5_method_10_code, exceptionTable := #[], attributes := #[] }
def k8m2 : Method := { name := "asciiLetterOrDigit", desc := "(I)Z", sig := { parameters := [.int], returnType := some .boolean }, accessFlags := 10, code := some k8c2 }
/-- com/example/uni_errors/unierrors/CorrelationHeaders -/
def k8 : Class := { plain "com/example/uni_errors/unierrors/CorrelationHeaders" (some 0) with
  accessFlags := 49
  interfaces := #[]
  cf := some (fileOf pool8 8 #[] #[{ accessFlags := 9, nameIndex := 92, descriptorIndex := 93, attributes := #[] }, { accessFlags := 10, nameIndex := 142, descriptorIndex := 143, attributes := #[] }, { accessFlags := 10, nameIndex := 173, descriptorIndex := 143, attributes := #[] }] 49 2 #[] #[{ accessFlags := 25, nameIndex := 202, descriptorIndex := 20, attributes := #[] }, { accessFlags := 25, nameIndex := 204, descriptorIndex := 20, attributes := #[] }, { accessFlags := 25, nameIndex := 205, descriptorIndex := 20, attributes := #[] }, { accessFlags := 26, nameIndex := 206, descriptorIndex := 207, attributes := #[] }, { accessFlags := 26, nameIndex := 146, descriptorIndex := 147, attributes := #[] }, { accessFlags := 26, nameIndex := 209, descriptorIndex := 20, attributes := #[] }, { accessFlags := 26, nameIndex := 23, descriptorIndex := 24, attributes := #[] }, { accessFlags := 18, nameIndex := 11, descriptorIndex := 12, attributes := #[] }, { accessFlags := 18, nameIndex := 15, descriptorIndex := 16, attributes := #[] }, { accessFlags := 18, nameIndex := 19, descriptorIndex := 20, attributes := #[] }])
  fields := #[{ name := "REQUEST_ID", type := (.object "java/lang/String"), accessFlags := 25, slot := 0, constantValue := 0 }, { name := "CORRELATION_ID", type := (.object "java/lang/String"), accessFlags := 25, slot := 1, constantValue := 0 }, { name := "TRACEPARENT", type := (.object "java/lang/String"), accessFlags := 25, slot := 2, constantValue := 0 }, { name := "LONGEST_ID", type := .int, accessFlags := 26, slot := 3, constantValue := 0 }, { name := "TRACEPARENT_00", type := (.object "java/util/regex/Pattern"), accessFlags := 26, slot := 4, constantValue := 0 }, { name := "TOKEN_SYMBOLS", type := (.object "java/lang/String"), accessFlags := 26, slot := 5, constantValue := 0 }, { name := "DUAL", type := (.object "com/example/uni_errors/unierrors/CorrelationHeaders"), accessFlags := 26, slot := 6, constantValue := 0 }, { name := "idHeaders", type := (.object "java/util/List"), accessFlags := 18, slot := 0, constantValue := 0 }, { name := "readsTraceparent", type := .boolean, accessFlags := 18, slot := 1, constantValue := 0 }, { name := "answerHeader", type := (.object "java/lang/String"), accessFlags := 18, slot := 2, constantValue := 0 }]
  methods := #[k8m0, k8m1, k8m2]
  instanceTypes := #[(.object "java/util/List"), .boolean, (.object "java/lang/String")]
  staticTypes := #[(.object "java/lang/String"), (.object "java/lang/String"), (.object "java/lang/String"), .int, (.object "java/util/regex/Pattern"), (.object "java/lang/String"), (.object "com/example/uni_errors/unierrors/CorrelationHeaders")]
  resolved := Array.replicate 270 none
  statics := none }

def pool9 : Array CpInfo := pool [(3, .class_ 4), (0, u "java/lang/String"), (1, .class_ 8), (1, u "java/lang/Object"), (0, u "<init>"), (0, u "()V"), (0, .methodref 12 13), (0, .class_ 14), (0, .nameAndType 15 16), (0, u "java/lang/StringUTF16"), (0, u "newBytesLength"), (0, u "(I)I"), (3, .integer 1073741823), (23, .fieldref 12 45), (0, .nameAndType 46 47), (0, u "$assertionsDisabled"), (0, u "Z"), (0, .methodref 12 49), (0, .nameAndType 50 51), (0, u "length"), (0, u "([B)I"), (7, .fieldref 12 60), (0, .nameAndType 61 62), (0, u "HI_BYTE_SHIFT"), (0, u "I"), (0, .fieldref 12 64), (0, .nameAndType 65 62), (0, u "LO_BYTE_SHIFT"), (1, .methodref 12 68), (0, .nameAndType 69 70), (0, u "checkIndex"), (0, u "(I[B)V"), (0, .methodref 12 72), (0, .nameAndType 73 74), (0, u "getChar"), (0, u "([BI)C"), (32, .methodref 12 108), (0, .nameAndType 109 110), (0, u "newBytesFor"), (0, u "(I)[B"), (0, .methodref 12 112), (0, .nameAndType 113 114), (0, u "putChar"), (0, u "([BII)V"), (0, .methodref 12 116), (0, .nameAndType 117 118), (0, u "compress"), (0, u "([CI[BII)I"), (0, .methodref 12 120), (0, .nameAndType 121 122), (0, u "toBytes"), (0, u "([CII)[B"), (138, u "coderFromArrayLen"), (0, u "([BI)B"), (106, .class_ 371), (1, u "java/lang/StringUTF16$LinesSpliterator"), (20, u "charAt"), (21, .methodref 3 415), (0, .nameAndType 69 416), (0, u "(II)V"), (13, u "MAX_LENGTH"), (196, .class_ 628), (0, u "java/lang/StringUTF16$CodePointsSpliterator"), (0, .class_ 630), (0, u "java/lang/StringUTF16$CharsSpliterator")] 4

def k9m0 : Method := { name := "<init>", desc := "()V", sig := { parameters := [], returnType := none }, accessFlags := 0, code := none }
def k9c1 : Code := { maxStack := 1, maxLocals := 1, code := jdk_52_method_2_code, exceptionTable := #[], attributes := #[] }
def k9m1 : Method := { name := "newBytesFor", desc := "(I)[B", sig := { parameters := [.int], returnType := some (.array .byte) }, accessFlags := 9, code := some k9c1 }
def k9c2 : Code := { maxStack := 4, maxLocals := 1, code := jdk_52_method_3_code, exceptionTable := #[], attributes := #[] }
def k9m2 : Method := { name := "newBytesLength", desc := "(I)I", sig := { parameters := [.int], returnType := some .int }, accessFlags := 9, code := some k9c2 }
def k9c3 : Code := { maxStack := 4, maxLocals := 3, code := jdk_52_method_4_code, exceptionTable := #[], attributes := #[] }
def k9m3 : Method := { name := "putChar", desc := "([BII)V", sig := { parameters := [(.array .byte), .int, .int], returnType := none }, accessFlags := 8, code := some k9c3 }
def k9c4 : Code := { maxStack := 3, maxLocals := 2, code := jdk_52_method_5_code, exceptionTable := #[], attributes := #[] }
def k9m4 : Method := { name := "getChar", desc := "([BI)C", sig := { parameters := [(.array .byte), .int], returnType := some .char }, accessFlags := 8, code := some k9c4 }
def k9c5 : Code := { maxStack := 2, maxLocals := 1, code := jdk_52_method_6_code, exceptionTable := #[], attributes := #[] }
def k9m5 : Method := { name := "length", desc := "([B)I", sig := { parameters := [(.array .byte)], returnType := some .int }, accessFlags := 9, code := some k9c5 }
def k9c6 : Code := { maxStack := 4, maxLocals := 5, code := jdk_52_method_14_code, exceptionTable := #[], attributes := #[] }
def k9m6 : Method := { name := "toBytes", desc := "([CII)[B", sig := { parameters := [(.array .char), .int, .int], returnType := some (.array .byte) }, accessFlags := 9, code := some k9c6 }
def k9c7 : Code := { maxStack := 2, maxLocals := 2, code := jdk_52_method_15_code, exceptionTable := #[], attributes := #[] }
def k9m7 : Method := { name := "coderFromArrayLen", desc := "([BI)B", sig := { parameters := [(.array .byte), .int], returnType := some .byte }, accessFlags := 8, code := some k9c7 }
def k9c8 : Code := { maxStack := 5, maxLocals := 6, code := jdk_52_method_16_code, exceptionTable := #[], attributes := #[] }
def k9m8 : Method := { name := "compress", desc := "([CII)[B", sig := { parameters := [(.array .char), .int, .int], returnType := some (.array .byte) }, accessFlags := 9, code := some k9c8 }
def k9c9 : Code := { maxStack := 3, maxLocals := 7, code := jdk_52_method_21_code, exceptionTable := #[], attributes := #[] }
def k9m9 : Method := { name := "compress", desc := "([CI[BII)I", sig := { parameters := [(.array .char), .int, (.array .byte), .int, .int], returnType := some .int }, accessFlags := 9, code := some k9c9 }
def k9c10 : Code := { maxStack := 2, maxLocals := 2, code := jdk_52_method_83_code, exceptionTable := #[], attributes := #[] }
def k9m10 : Method := { name := "charAt", desc := "([BI)C", sig := { parameters := [(.array .byte), .int], returnType := some .char }, accessFlags := 9, code := some k9c10 }
def k9c11 : Code := { maxStack := 2, maxLocals := 2, code := jdk_52_method_91_code, exceptionTable := #[], attributes := #[] }
def k9m11 : Method := { name := "checkIndex", desc := "(I[B)V", sig := { parameters := [.int, (.array .byte)], returnType := none }, accessFlags := 9, code := some k9c11 }
/-- java/lang/StringUTF16 -/
def k9 : Class := { plain "java/lang/StringUTF16" (some 0) with
  accessFlags := 48
  interfaces := #[]
  cf := some (fileOf pool9 12 #[.nestMembers #[627, 629, 369]] #[{ accessFlags := 0, nameIndex := 9, descriptorIndex := 10, attributes := #[] }, { accessFlags := 9, nameIndex := 109, descriptorIndex := 110, attributes := #[] }, { accessFlags := 9, nameIndex := 15, descriptorIndex := 16, attributes := #[] }, { accessFlags := 8, nameIndex := 113, descriptorIndex := 114, attributes := #[] }, { accessFlags := 8, nameIndex := 73, descriptorIndex := 74, attributes := #[] }, { accessFlags := 9, nameIndex := 50, descriptorIndex := 51, attributes := #[] }, { accessFlags := 9, nameIndex := 121, descriptorIndex := 122, attributes := #[] }, { accessFlags := 8, nameIndex := 261, descriptorIndex := 262, attributes := #[] }, { accessFlags := 9, nameIndex := 117, descriptorIndex := 122, attributes := #[] }, { accessFlags := 9, nameIndex := 117, descriptorIndex := 118, attributes := #[] }, { accessFlags := 9, nameIndex := 392, descriptorIndex := 74, attributes := #[] }, { accessFlags := 9, nameIndex := 69, descriptorIndex := 70, attributes := #[] }] 48 6 #[] #[{ accessFlags := 26, nameIndex := 61, descriptorIndex := 62, attributes := #[] }, { accessFlags := 26, nameIndex := 65, descriptorIndex := 62, attributes := #[] }, { accessFlags := 24, nameIndex := 430, descriptorIndex := 62, attributes := #[] }, { accessFlags := 4120, nameIndex := 46, descriptorIndex := 47, attributes := #[] }])
  fields := #[{ name := "HI_BYTE_SHIFT", type := .int, accessFlags := 26, slot := 0, constantValue := 0 }, { name := "LO_BYTE_SHIFT", type := .int, accessFlags := 26, slot := 1, constantValue := 0 }, { name := "MAX_LENGTH", type := .int, accessFlags := 24, slot := 2, constantValue := 0 }, { name := "$assertionsDisabled", type := .boolean, accessFlags := 4120, slot := 3, constantValue := 0 }]
  methods := #[k9m0, k9m1, k9m2, k9m3, k9m4, k9m5, k9m6, k9m7, k9m8, k9m9, k9m10, k9m11]
  instanceTypes := #[]
  staticTypes := #[.int, .int, .int, .boolean]
  resolved := Array.replicate 635 none
  statics := some 1 }

def pool10 : Array CpInfo := pool [(1, .class_ 2), (0, u "java/lang/String"), (1, .class_ 6), (1, u "java/lang/Object"), (0, u "<init>"), (0, u "()V"), (0, .methodref 1 10), (0, .nameAndType 11 12), (0, u "checkIndex"), (0, u "(II)V"), (1, .class_ 16), (1, u "java/lang/StringLatin1"), (36, u "([BI)C"), (67, u "$assertionsDisabled"), (0, u "Z"), (98, .class_ 223), (1, u "java/lang/StringLatin1$LinesSpliterator"), (28, u "charAt"), (137, .class_ 391), (0, u "java/lang/StringLatin1$CharsSpliterator")] 3

def k10m0 : Method := { name := "<init>", desc := "()V", sig := { parameters := [], returnType := none }, accessFlags := 0, code := none }
def k10c1 : Code := { maxStack := 2, maxLocals := 2, code := jdk_43_method_2_code, exceptionTable := #[], attributes := #[] }
def k10m1 : Method := { name := "charAt", desc := "([BI)C", sig := { parameters := [(.array .byte), .int], returnType := some .char }, accessFlags := 9, code := some k10c1 }
/-- java/lang/StringLatin1 -/
def k10 : Class := { plain "java/lang/StringLatin1" (some 0) with
  accessFlags := 48
  interfaces := #[]
  cf := some (fileOf pool10 14 #[.nestMembers #[390, 221]] #[{ accessFlags := 0, nameIndex := 7, descriptorIndex := 8, attributes := #[] }, { accessFlags := 9, nameIndex := 252, descriptorIndex := 53, attributes := #[] }] 48 4 #[] #[{ accessFlags := 4120, nameIndex := 121, descriptorIndex := 122, attributes := #[] }])
  fields := #[{ name := "$assertionsDisabled", type := .boolean, accessFlags := 4120, slot := 0, constantValue := 0 }]
  methods := #[k10m0, k10m1]
  instanceTypes := #[]
  staticTypes := #[.boolean]
  resolved := Array.replicate 395 none
  statics := none }

def pool11 : Array CpInfo := pool [(2, .class_ 4), (1, u "java/lang/Object"), (0, u "<init>"), (0, u "()V"), (17, .class_ 26), (1, u "jdk/internal/util/Preconditions"), (6, u "checkIndex"), (21, .class_ 56), (0, u "jdk/internal/util/Preconditions$4"), (57, .class_ 115), (0, u "jdk/internal/util/Preconditions$1"), (7, u "SIOOBE_FORMATTER"), (0, u "Ljava/util/function/BiFunction;"), (0, .class_ 126), (0, u "jdk/internal/util/Preconditions$2"), (3, u "AIOOBE_FORMATTER"), (0, .class_ 132), (0, u "jdk/internal/util/Preconditions$3"), (3, u "IOOBE_FORMATTER"), (41, u "(IILjava/util/function/BiFunction;)I")] 15

def k11m0 : Method := { name := "<init>", desc := "()V", sig := { parameters := [], returnType := none }, accessFlags := 1, code := none }
def k11c1 : Code := { maxStack := 3, maxLocals := 3, code := jdk_41_method_11_code, exceptionTable := #[], attributes := #[] }
def k11m1 : Method := { name := "checkIndex", desc := "(IILjava/util/function/BiFunction;)I", sig := { parameters := [.int, .int, (.object "java/util/function/BiFunction")], returnType := some .int }, accessFlags := 9, code := some k11c1 }
/-- jdk/internal/util/Preconditions -/
def k11 : Class := { plain "jdk/internal/util/Preconditions" (some 0) with
  accessFlags := 33
  interfaces := #[]
  cf := some (fileOf pool11 24 #[.nestMembers #[55, 131, 125, 114]] #[{ accessFlags := 1, nameIndex := 5, descriptorIndex := 6, attributes := #[] }, { accessFlags := 9, nameIndex := 33, descriptorIndex := 178, attributes := #[] }] 33 2 #[] #[{ accessFlags := 25, nameIndex := 123, descriptorIndex := 124, attributes := #[] }, { accessFlags := 25, nameIndex := 130, descriptorIndex := 124, attributes := #[] }, { accessFlags := 25, nameIndex := 136, descriptorIndex := 124, attributes := #[] }])
  fields := #[{ name := "SIOOBE_FORMATTER", type := (.object "java/util/function/BiFunction"), accessFlags := 25, slot := 0, constantValue := 0 }, { name := "AIOOBE_FORMATTER", type := (.object "java/util/function/BiFunction"), accessFlags := 25, slot := 1, constantValue := 0 }, { name := "IOOBE_FORMATTER", type := (.object "java/util/function/BiFunction"), accessFlags := 25, slot := 2, constantValue := 0 }]
  methods := #[k11m0, k11m1]
  instanceTypes := #[]
  staticTypes := #[(.object "java/util/function/BiFunction"), (.object "java/util/function/BiFunction"), (.object "java/util/function/BiFunction")]
  resolved := Array.replicate 194 none
  statics := some 2 }

def pool12 : Array CpInfo := pool [(9, u "<init>"), (6, .class_ 18), (1, u "java/lang/Object"), (0, u "()V"), (1, .class_ 23), (1, u "jdk/internal/util/ArraysSupport"), (0, u "LOG2_ARRAY_LONG_INDEX_SCALE"), (0, u "I"), (2, u "U"), (0, u "Ljdk/internal/misc/Unsafe;"), (8, u "BIG_ENDIAN"), (0, u "Z"), (8, u "LOG2_BYTE_BIT_SIZE"), (4, u "LOG2_ARRAY_INT_INDEX_SCALE"), (54, u "JLA"), (0, u "Ljdk/internal/access/JavaLangAccess;"), (11, u "LOG2_ARRAY_BOOLEAN_INDEX_SCALE"), (9, u "LOG2_ARRAY_BYTE_INDEX_SCALE"), (5, u "LOG2_ARRAY_CHAR_INDEX_SCALE"), (5, u "LOG2_ARRAY_SHORT_INDEX_SCALE"), (18, u "LOG2_ARRAY_FLOAT_INDEX_SCALE"), (24, u "LOG2_ARRAY_DOUBLE_INDEX_SCALE"), (89, u "T_BOOLEAN"), (2, u "T_CHAR"), (1, u "T_FLOAT"), (1, u "T_DOUBLE"), (1, u "T_BYTE"), (1, u "T_SHORT"), (1, u "T_INT"), (1, u "T_LONG"), (1, u "SOFT_MAX_ARRAY_LENGTH")] 83

def k12m0 : Method := { name := "<init>", desc := "()V", sig := { parameters := [], returnType := none }, accessFlags := 2, code := none }
/-- jdk/internal/util/ArraysSupport -/
def k12 : Class := { plain "jdk/internal/util/ArraysSupport" (some 0) with
  accessFlags := 33
  interfaces := #[]
  cf := some (fileOf pool12 21 #[] #[{ accessFlags := 2, nameIndex := 9, descriptorIndex := 19, attributes := #[] }] 33 16 #[] #[{ accessFlags := 24, nameIndex := 28, descriptorIndex := 29, attributes := #[] }, { accessFlags := 26, nameIndex := 38, descriptorIndex := 39, attributes := #[] }, { accessFlags := 25, nameIndex := 121, descriptorIndex := 25, attributes := #[] }, { accessFlags := 25, nameIndex := 131, descriptorIndex := 25, attributes := #[] }, { accessFlags := 25, nameIndex := 137, descriptorIndex := 25, attributes := #[] }, { accessFlags := 25, nameIndex := 143, descriptorIndex := 25, attributes := #[] }, { accessFlags := 25, nameIndex := 53, descriptorIndex := 25, attributes := #[] }, { accessFlags := 25, nameIndex := 24, descriptorIndex := 25, attributes := #[] }, { accessFlags := 25, nameIndex := 162, descriptorIndex := 25, attributes := #[] }, { accessFlags := 25, nameIndex := 187, descriptorIndex := 25, attributes := #[] }, { accessFlags := 26, nameIndex := 48, descriptorIndex := 25, attributes := #[] }, { accessFlags := 25, nameIndex := 277, descriptorIndex := 25, attributes := #[] }, { accessFlags := 25, nameIndex := 280, descriptorIndex := 25, attributes := #[] }, { accessFlags := 25, nameIndex := 282, descriptorIndex := 25, attributes := #[] }, { accessFlags := 25, nameIndex := 284, descriptorIndex := 25, attributes := #[] }, { accessFlags := 25, nameIndex := 286, descriptorIndex := 25, attributes := #[] }, { accessFlags := 25, nameIndex := 288, descriptorIndex := 25, attributes := #[] }, { accessFlags := 25, nameIndex := 290, descriptorIndex := 25, attributes := #[] }, { accessFlags := 25, nameIndex := 292, descriptorIndex := 25, attributes := #[] }, { accessFlags := 26, nameIndex := 108, descriptorIndex := 109, attributes := #[] }, { accessFlags := 25, nameIndex := 294, descriptorIndex := 25, attributes := #[] }])
  fields := #[{ name := "U", type := (.object "jdk/internal/misc/Unsafe"), accessFlags := 24, slot := 0, constantValue := 0 }, { name := "BIG_ENDIAN", type := .boolean, accessFlags := 26, slot := 1, constantValue := 0 }, { name := "LOG2_ARRAY_BOOLEAN_INDEX_SCALE", type := .int, accessFlags := 25, slot := 2, constantValue := 0 }, { name := "LOG2_ARRAY_BYTE_INDEX_SCALE", type := .int, accessFlags := 25, slot := 3, constantValue := 0 }, { name := "LOG2_ARRAY_CHAR_INDEX_SCALE", type := .int, accessFlags := 25, slot := 4, constantValue := 0 }, { name := "LOG2_ARRAY_SHORT_INDEX_SCALE", type := .int, accessFlags := 25, slot := 5, constantValue := 0 }, { name := "LOG2_ARRAY_INT_INDEX_SCALE", type := .int, accessFlags := 25, slot := 6, constantValue := 0 }, { name := "LOG2_ARRAY_LONG_INDEX_SCALE", type := .int, accessFlags := 25, slot := 7, constantValue := 0 }, { name := "LOG2_ARRAY_FLOAT_INDEX_SCALE", type := .int, accessFlags := 25, slot := 8, constantValue := 0 }, { name := "LOG2_ARRAY_DOUBLE_INDEX_SCALE", type := .int, accessFlags := 25, slot := 9, constantValue := 0 }, { name := "LOG2_BYTE_BIT_SIZE", type := .int, accessFlags := 26, slot := 10, constantValue := 0 }, { name := "T_BOOLEAN", type := .int, accessFlags := 25, slot := 11, constantValue := 0 }, { name := "T_CHAR", type := .int, accessFlags := 25, slot := 12, constantValue := 0 }, { name := "T_FLOAT", type := .int, accessFlags := 25, slot := 13, constantValue := 0 }, { name := "T_DOUBLE", type := .int, accessFlags := 25, slot := 14, constantValue := 0 }, { name := "T_BYTE", type := .int, accessFlags := 25, slot := 15, constantValue := 0 }, { name := "T_SHORT", type := .int, accessFlags := 25, slot := 16, constantValue := 0 }, { name := "T_INT", type := .int, accessFlags := 25, slot := 17, constantValue := 0 }, { name := "T_LONG", type := .int, accessFlags := 25, slot := 18, constantValue := 0 }, { name := "JLA", type := (.object "jdk/internal/access/JavaLangAccess"), accessFlags := 26, slot := 19, constantValue := 0 }, { name := "SOFT_MAX_ARRAY_LENGTH", type := .int, accessFlags := 25, slot := 20, constantValue := 0 }]
  methods := #[k12m0]
  instanceTypes := #[]
  staticTypes := #[(.object "jdk/internal/misc/Unsafe"), .boolean, .int, .int, .int, .int, .int, .int, .int, .int, .int, .int, .int, .int, .int, .int, .int, .int, .int, (.object "jdk/internal/access/JavaLangAccess"), .int]
  resolved := Array.replicate 378 none
  statics := none }

def pool13 : Array CpInfo := pool [(1, u "java/lang/Cloneable"), (0, .class_ 1), (0, u "java/lang/Object"), (0, .class_ 3)] 3

/-- java/lang/Cloneable -/
def k13 : Class := { plain "java/lang/Cloneable" (some 0) with
  accessFlags := 1537
  interfaces := #[]
  cf := some (fileOf pool13 2 #[] #[] 1537 4 #[] #[])
  fields := #[]
  methods := #[]
  instanceTypes := #[]
  staticTypes := #[]
  resolved := Array.replicate 8 none
  statics := none }

/-- the primitive byte -/
def k14 : Class := { plain "byte" none with kind := .primitive 'B', accessFlags := 0x411 }
/-- [B -/
def k15 : Class := { plain "[B" (some 0) with kind := .array 14 .byte, interfaces := #[13, 2], accessFlags := 1041 }

/-- the primitive char -/
def k16 : Class := { plain "char" none with kind := .primitive 'C', accessFlags := 0x411 }
/-- [C -/
def k17 : Class := { plain "[C" (some 0) with kind := .array 16 .char, interfaces := #[13, 2], accessFlags := 1041 }

/-- the primitive int -/
def k18 : Class := { plain "int" none with kind := .primitive 'I', accessFlags := 0x411 }
/-- [I -/
def k19 : Class := { plain "[I" (some 0) with kind := .array 18 .int, interfaces := #[13, 2], accessFlags := 1041 }

def heap : Heap := #[{ cls := 7, slots := #[.long 0, .int 1, .null, .int 0, .null, .int 0, .int 0], vm := .statics 7 },
  { cls := 9, slots := #[.int 0, .int 8, .int 0, .int 1], vm := .statics 9 },
  { cls := 11, slots := #[.null, .null, .null], vm := .statics 11 }]
def classes : Array Class := #[k0, k1, k2, k3, k4, k5, k6, k7, k8, k9, k10, k11, k12, k13, k14, k15, k16, k17, k18, k19]
def interned : List (Array UInt16 × Addr) := []
def slotsUsed : Nat := 14
def theMethod : MethodId := ⟨1, 2⟩
def args0 : Array Value := #[.int 5, .int 5, .int 5, .int 5, .int 5, .int 5]
def aboutOver (below : List Frame) : State where
  vm := { classes := classes, interned := interned.toArray }
  heap := heap
  slotsUsed := slotsUsed
  threads := #[{ frames := .invoking theMethod args0 :: below }]
def below0 : List Frame := [.native { method := ⟨0, 0⟩, args := #[] }]
def about1 : State := aboutOver below0
def p0 : Program := .bare "" "" ""
def e0 : Env := launch0.env 0 0 0
theorem w_frames : about1.frames = Frame.invoking theMethod args0 :: below0 := rfl
set_option maxRecDepth 65536 in
theorem w_args : argsFit about1.vm theMethod args0 = true := by decide +kernel
set_option maxRecDepth 65536 in
theorem w_heap : heapFits about1 = true := by decide +kernel
set_option maxRecDepth 65536 in
theorem w_runnable : about1.curStatus? = some .runnable := by decide +kernel
set_option maxRecDepth 65536 in
theorem w_alone : about1.alone = true := by decide +kernel
set_option maxRecDepth 65536 in
theorem w_named : about1.methodNamed? x = some theMethod := by decide +kernel
set_option maxRecDepth 65536 in
theorem w_hears : about1.hears theMethod below0 = true := by decide +kernel
set_option maxRecDepth 65536 in
theorem w_ripe : about1.ripe theMethod args0 below0 = true := by decide +kernel
theorem w_running : about1.status = .running := rfl
set_option maxRecDepth 65536 in
theorem w_room : about1.hasRoom e0.platform room_1 = true :=
  launch0.hasRoom_least _ room_1 (by decide +kernel) (by decide +kernel) (by decide +kernel) (by decide +kernel) (by decide +kernel) (by decide +kernel)
theorem allAtoms_all (ts : List Jvm.Cond) (a : Array Jvm.Value) (st : Jvm.State) : (allAtoms ts).before a st = ts.all (fun c => c.before a st) := by
  induction ts with
  | nil => rfl
  | cons c t ih =>
    show (Jvm.Cond.and c (allAtoms t)).before a st = _
    rw [Jvm.Cond.before_and, ih, List.all_cons]
def words1 : List Jvm.Cond := Jvm.Cond.code x code maxLocals ret :: tables_1
/-- a 'code' word, met by the world's own term for the bytes: nothing is compared byte by byte -/
theorem code_word {y : MethodName} {bytes : ByteArray} {mx : Nat} {rt : Option FieldType} {a : Array Value} {s : State} {m : MethodId} {meth : Method} {c : Code} (h1 : s.methodNamed? y = some m) (h2 : s.vm.method? m = some meth) (h3 : meth.code = some c) (h4 : c.code = bytes)
    (h5 : (c.maxLocals == mx && c.exceptionTable.isEmpty && decide (c.maxStack ≤ mostOperands) && decide (meth.sig.returnType = rt) && !meth.locks && decide (parseMethodDescriptor y.desc = some meth.sig)) = true) : (Jvm.Cond.code y bytes mx rt).before a s = true := by
  simp only [Bool.and_eq_true, beq_iff_eq, Bool.not_eq_true', decide_eq_true_eq] at h5
  obtain ⟨⟨⟨⟨⟨g1, g2⟩, g3⟩, g4⟩, g5⟩, g6⟩ := h5
  simp [Cond.before, Cond.holds, Cond.value, h1, h2, h3, h4, g1, g2, g3, g4, g5, g6]
def isCode : Jvm.Cond → Bool
  | .code _ _ _ _ => true
  | _ => false
theorem all_split {L : List Jvm.Cond} {P : Jvm.Cond → Bool} (h1 : L.all (fun c => isCode c || P c) = true) (h2 : ∀ c ∈ L.filter isCode, P c = true) : L.all P = true := by
  refine List.all_eq_true.mpr fun c hc => ?_
  have h := List.all_eq_true.mp h1 c hc
  rcases Bool.eq_false_or_eq_true (isCode c) with hi | hi
  · exact h2 c (List.mem_filter.mpr ⟨hc, hi⟩)
  · simpa [hi] using h
set_option maxRecDepth 65536 in
theorem w_c0 : (Jvm.Cond.code x code maxLocals ret).before args0 about1 = true := code_word (m := ⟨1, 2⟩) (meth := k1m2) (c := k1c2) (by decide +kernel) rfl rfl rfl (by decide +kernel)
set_option maxRecDepth 65536 in
theorem w_c1 : (Jvm.Cond.code ({ cls := "com/example/uni_errors/unierrors/CorrelationHeaders", name := "isValidId", desc := "(Ljava/lang/String;)Z" } : Jvm.MethodName) prog_5_method_6_code (2 : Nat) (Option.some Jvm.ClassFile.FieldType.boolean)).before args0 about1 = true := code_word (m := ⟨8, 0⟩) (meth := k8m0) (c := k8c0) (by decide +kernel) rfl rfl rfl (by decide +kernel)
set_option maxRecDepth 65536 in
theorem w_c2 : (Jvm.Cond.code ({ cls := "java/lang/String", name := "isEmpty", desc := "()Z" } : Jvm.MethodName) jdk_42_method_55_code (1 : Nat) (Option.some Jvm.ClassFile.FieldType.boolean)).before args0 about1 = true := code_word (m := ⟨7, 3⟩) (meth := k7m3) (c := k7c3) (by decide +kernel) rfl rfl rfl (by decide +kernel)
set_option maxRecDepth 65536 in
theorem w_c3 : (Jvm.Cond.code ({ cls := "java/lang/String", name := "<init>", desc := "([C)V" } : Jvm.MethodName) jdk_42_method_3_code (2 : Nat) (Option.none : Option Jvm.ClassFile.FieldType)).before args0 about1 = true := code_word (m := ⟨7, 1⟩) (meth := k7m1) (c := k7c1) (by decide +kernel) rfl rfl rfl (by decide +kernel)
set_option maxRecDepth 65536 in
theorem w_c4 : (Jvm.Cond.code ({ cls := "java/lang/String", name := "<init>", desc := "([CIILjava/lang/Void;)V" } : Jvm.MethodName) jdk_42_method_149_code (6 : Nat) (Option.none : Option Jvm.ClassFile.FieldType)).before args0 about1 = true := code_word (m := ⟨7, 5⟩) (meth := k7m5) (c := k7c5) (by decide +kernel) rfl rfl rfl (by decide +kernel)
set_option maxRecDepth 65536 in
theorem w_c5 : (Jvm.Cond.code ({ cls := "java/lang/Object", name := "<init>", desc := "()V" } : Jvm.MethodName) object_method_1_code (1 : Nat) (Option.none : Option Jvm.ClassFile.FieldType)).before args0 about1 = true := code_word (m := ⟨0, 0⟩) (meth := k0m0) (c := k0c0) (by decide +kernel) rfl rfl rfl (by decide +kernel)
set_option maxRecDepth 65536 in
theorem w_c6 : (Jvm.Cond.code ({ cls := "java/lang/StringUTF16", name := "compress", desc := "([CII)[B" } : Jvm.MethodName) jdk_52_method_16_code (6 : Nat) (Option.some (Jvm.ClassFile.FieldType.array Jvm.ClassFile.FieldType.byte))).before args0 about1 = true := code_word (m := ⟨9, 8⟩) (meth := k9m8) (c := k9c8) (by decide +kernel) rfl rfl rfl (by decide +kernel)
set_option maxRecDepth 65536 in
theorem w_c7 : (Jvm.Cond.code ({ cls := "java/lang/StringUTF16", name := "compress", desc := "([CI[BII)I" } : Jvm.MethodName) jdk_52_method_21_code (7 : Nat) (Option.some Jvm.ClassFile.FieldType.int)).before args0 about1 = true := code_word (m := ⟨9, 9⟩) (meth := k9m9) (c := k9c9) (by decide +kernel) rfl rfl rfl (by decide +kernel)
set_option maxRecDepth 65536 in
theorem w_c8 : (Jvm.Cond.code ({ cls := "java/lang/StringUTF16", name := "coderFromArrayLen", desc := "([BI)B" } : Jvm.MethodName) jdk_52_method_15_code (2 : Nat) (Option.some Jvm.ClassFile.FieldType.byte)).before args0 about1 = true := code_word (m := ⟨9, 7⟩) (meth := k9m7) (c := k9c7) (by decide +kernel) rfl rfl rfl (by decide +kernel)
set_option maxRecDepth 65536 in
theorem w_c9 : (Jvm.Cond.code ({ cls := "com/example/uni_errors/unierrors/CorrelationHeadersIsValidIdPinLaw", name := "ok", desc := "(C)Z" } : Jvm.MethodName) method_2_code (1 : Nat) (Option.some Jvm.ClassFile.FieldType.boolean)).before args0 about1 = true := code_word (m := ⟨1, 1⟩) (meth := k1m1) (c := k1c1) (by decide +kernel) rfl rfl rfl (by decide +kernel)
set_option maxRecDepth 65536 in
theorem w_c10 : (Jvm.Cond.code ({ cls := "java/lang/String", name := "length", desc := "()I" } : Jvm.MethodName) jdk_42_method_54_code (1 : Nat) (Option.some Jvm.ClassFile.FieldType.int)).before args0 about1 = true := code_word (m := ⟨7, 2⟩) (meth := k7m2) (c := k7c2) (by decide +kernel) rfl rfl rfl (by decide +kernel)
set_option maxRecDepth 65536 in
theorem w_c11 : (Jvm.Cond.code ({ cls := "java/lang/String", name := "coder", desc := "()B" } : Jvm.MethodName) jdk_42_method_152_code (1 : Nat) (Option.some Jvm.ClassFile.FieldType.byte)).before args0 about1 = true := code_word (m := ⟨7, 6⟩) (meth := k7m6) (c := k7c6) (by decide +kernel) rfl rfl rfl (by decide +kernel)
set_option maxRecDepth 65536 in
theorem w_c12 : (Jvm.Cond.code ({ cls := "java/lang/String", name := "charAt", desc := "(I)C" } : Jvm.MethodName) jdk_42_method_56_code (2 : Nat) (Option.some Jvm.ClassFile.FieldType.char)).before args0 about1 = true := code_word (m := ⟨7, 4⟩) (meth := k7m4) (c := k7c4) (by decide +kernel) rfl rfl rfl (by decide +kernel)
set_option maxRecDepth 65536 in
theorem w_c13 : (Jvm.Cond.code ({ cls := "java/lang/String", name := "isLatin1", desc := "()Z" } : Jvm.MethodName) jdk_42_method_154_code (1 : Nat) (Option.some Jvm.ClassFile.FieldType.boolean)).before args0 about1 = true := code_word (m := ⟨7, 7⟩) (meth := k7m7) (c := k7c7) (by decide +kernel) rfl rfl rfl (by decide +kernel)
set_option maxRecDepth 65536 in
theorem w_c14 : (Jvm.Cond.code ({ cls := "java/lang/StringLatin1", name := "charAt", desc := "([BI)C" } : Jvm.MethodName) jdk_43_method_2_code (2 : Nat) (Option.some Jvm.ClassFile.FieldType.char)).before args0 about1 = true := code_word (m := ⟨10, 1⟩) (meth := k10m1) (c := k10c1) (by decide +kernel) rfl rfl rfl (by decide +kernel)
set_option maxRecDepth 65536 in
theorem w_c15 : (Jvm.Cond.code ({ cls := "java/lang/String", name := "checkIndex", desc := "(II)V" } : Jvm.MethodName) jdk_42_method_155_code (2 : Nat) (Option.none : Option Jvm.ClassFile.FieldType)).before args0 about1 = true := code_word (m := ⟨7, 8⟩) (meth := k7m8) (c := k7c8) (by decide +kernel) rfl rfl rfl (by decide +kernel)
set_option maxRecDepth 65536 in
theorem w_c16 : (Jvm.Cond.code ({ cls := "jdk/internal/util/Preconditions", name := "checkIndex", desc := "(IILjava/util/function/BiFunction;)I" } : Jvm.MethodName) jdk_41_method_11_code (3 : Nat) (Option.some Jvm.ClassFile.FieldType.int)).before args0 about1 = true := code_word (m := ⟨11, 1⟩) (meth := k11m1) (c := k11c1) (by decide +kernel) rfl rfl rfl (by decide +kernel)
set_option maxRecDepth 65536 in
theorem w_c17 : (Jvm.Cond.code ({ cls := "com/example/uni_errors/unierrors/CorrelationHeaders", name := "idChar", desc := "(I)Z" } : Jvm.MethodName) prog_5_method_8_code (1 : Nat) (Option.some Jvm.ClassFile.FieldType.boolean)).before args0 about1 = true := code_word (m := ⟨8, 1⟩) (meth := k8m1) (c := k8c1) (by decide +kernel) rfl rfl rfl (by decide +kernel)
set_option maxRecDepth 65536 in
theorem w_c18 : (Jvm.Cond.code ({ cls := "com/example/uni_errors/unierrors/CorrelationHeaders", name := "asciiLetterOrDigit", desc := "(I)Z" } : Jvm.MethodName) prog_5_method_10_code (1 : Nat) (Option.some Jvm.ClassFile.FieldType.boolean)).before args0 about1 = true := code_word (m := ⟨8, 2⟩) (meth := k8m2) (c := k8c2) (by decide +kernel) rfl rfl rfl (by decide +kernel)
set_option maxRecDepth 65536 in
theorem w_c19 : (Jvm.Cond.code ({ cls := "java/lang/StringUTF16", name := "toBytes", desc := "([CII)[B" } : Jvm.MethodName) jdk_52_method_14_code (5 : Nat) (Option.some (Jvm.ClassFile.FieldType.array Jvm.ClassFile.FieldType.byte))).before args0 about1 = true := code_word (m := ⟨9, 6⟩) (meth := k9m6) (c := k9c6) (by decide +kernel) rfl rfl rfl (by decide +kernel)
set_option maxRecDepth 65536 in
theorem w_c20 : (Jvm.Cond.code ({ cls := "java/lang/StringUTF16", name := "newBytesFor", desc := "(I)[B" } : Jvm.MethodName) jdk_52_method_2_code (1 : Nat) (Option.some (Jvm.ClassFile.FieldType.array Jvm.ClassFile.FieldType.byte))).before args0 about1 = true := code_word (m := ⟨9, 1⟩) (meth := k9m1) (c := k9c1) (by decide +kernel) rfl rfl rfl (by decide +kernel)
set_option maxRecDepth 65536 in
theorem w_c21 : (Jvm.Cond.code ({ cls := "java/lang/StringUTF16", name := "newBytesLength", desc := "(I)I" } : Jvm.MethodName) jdk_52_method_3_code (1 : Nat) (Option.some Jvm.ClassFile.FieldType.int)).before args0 about1 = true := code_word (m := ⟨9, 2⟩) (meth := k9m2) (c := k9c2) (by decide +kernel) rfl rfl rfl (by decide +kernel)
set_option maxRecDepth 65536 in
theorem w_c22 : (Jvm.Cond.code ({ cls := "java/lang/StringUTF16", name := "putChar", desc := "([BII)V" } : Jvm.MethodName) jdk_52_method_4_code (3 : Nat) (Option.none : Option Jvm.ClassFile.FieldType)).before args0 about1 = true := code_word (m := ⟨9, 3⟩) (meth := k9m3) (c := k9c3) (by decide +kernel) rfl rfl rfl (by decide +kernel)
set_option maxRecDepth 65536 in
theorem w_c23 : (Jvm.Cond.code ({ cls := "java/lang/StringUTF16", name := "getChar", desc := "([BI)C" } : Jvm.MethodName) jdk_52_method_5_code (2 : Nat) (Option.some Jvm.ClassFile.FieldType.char)).before args0 about1 = true := code_word (m := ⟨9, 4⟩) (meth := k9m4) (c := k9c4) (by decide +kernel) rfl rfl rfl (by decide +kernel)
set_option maxRecDepth 65536 in
theorem w_c24 : (Jvm.Cond.code ({ cls := "java/lang/StringUTF16", name := "charAt", desc := "([BI)C" } : Jvm.MethodName) jdk_52_method_83_code (2 : Nat) (Option.some Jvm.ClassFile.FieldType.char)).before args0 about1 = true := code_word (m := ⟨9, 10⟩) (meth := k9m10) (c := k9c10) (by decide +kernel) rfl rfl rfl (by decide +kernel)
set_option maxRecDepth 65536 in
theorem w_c25 : (Jvm.Cond.code ({ cls := "java/lang/StringUTF16", name := "checkIndex", desc := "(I[B)V" } : Jvm.MethodName) jdk_52_method_91_code (2 : Nat) (Option.none : Option Jvm.ClassFile.FieldType)).before args0 about1 = true := code_word (m := ⟨9, 11⟩) (meth := k9m11) (c := k9c11) (by decide +kernel) rfl rfl rfl (by decide +kernel)
set_option maxRecDepth 65536 in
theorem w_c26 : (Jvm.Cond.code ({ cls := "java/lang/StringUTF16", name := "length", desc := "([B)I" } : Jvm.MethodName) jdk_52_method_6_code (1 : Nat) (Option.some Jvm.ClassFile.FieldType.int)).before args0 about1 = true := code_word (m := ⟨9, 5⟩) (meth := k9m5) (c := k9c5) (by decide +kernel) rfl rfl rfl (by decide +kernel)
def codes1 : List Jvm.Cond := [Jvm.Cond.code x code maxLocals ret, Jvm.Cond.code ({ cls := "com/example/uni_errors/unierrors/CorrelationHeaders", name := "isValidId", desc := "(Ljava/lang/String;)Z" } : Jvm.MethodName) prog_5_method_6_code (2 : Nat) (Option.some Jvm.ClassFile.FieldType.boolean), Jvm.Cond.code ({ cls := "java/lang/String", name := "isEmpty", desc := "()Z" } : Jvm.MethodName) jdk_42_method_55_code (1 : Nat) (Option.some Jvm.ClassFile.FieldType.boolean), Jvm.Cond.code ({ cls := "java/lang/String", name := "<init>", desc := "([C)V" } : Jvm.MethodName) jdk_42_method_3_code (2 : Nat) (Option.none : Option Jvm.ClassFile.FieldType), Jvm.Cond.code ({ cls := "java/lang/String", name := "<init>", desc := "([CIILjava/lang/Void;)V" } : Jvm.MethodName) jdk_42_method_149_code (6 : Nat) (Option.none : Option Jvm.ClassFile.FieldType), Jvm.Cond.code ({ cls := "java/lang/Object", name := "<init>", desc := "()V" } : Jvm.MethodName) object_method_1_code (1 : Nat) (Option.none : Option Jvm.ClassFile.FieldType), Jvm.Cond.code ({ cls := "java/lang/StringUTF16", name := "compress", desc := "([CII)[B" } : Jvm.MethodName) jdk_52_method_16_code (6 : Nat) (Option.some (Jvm.ClassFile.FieldType.array Jvm.ClassFile.FieldType.byte)), Jvm.Cond.code ({ cls := "java/lang/StringUTF16", name := "compress", desc := "([CI[BII)I" } : Jvm.MethodName) jdk_52_method_21_code (7 : Nat) (Option.some Jvm.ClassFile.FieldType.int), Jvm.Cond.code ({ cls := "java/lang/StringUTF16", name := "coderFromArrayLen", desc := "([BI)B" } : Jvm.MethodName) jdk_52_method_15_code (2 : Nat) (Option.some Jvm.ClassFile.FieldType.byte), Jvm.Cond.code ({ cls := "com/example/uni_errors/unierrors/CorrelationHeadersIsValidIdPinLaw", name := "ok", desc := "(C)Z" } : Jvm.MethodName) method_2_code (1 : Nat) (Option.some Jvm.ClassFile.FieldType.boolean), Jvm.Cond.code ({ cls := "java/lang/String", name := "length", desc := "()I" } : Jvm.MethodName) jdk_42_method_54_code (1 : Nat) (Option.some Jvm.ClassFile.FieldType.int), Jvm.Cond.code ({ cls := "java/lang/String", name := "coder", desc := "()B" } : Jvm.MethodName) jdk_42_method_152_code (1 : Nat) (Option.some Jvm.ClassFile.FieldType.byte), Jvm.Cond.code ({ cls := "java/lang/String", name := "charAt", desc := "(I)C" } : Jvm.MethodName) jdk_42_method_56_code (2 : Nat) (Option.some Jvm.ClassFile.FieldType.char), Jvm.Cond.code ({ cls := "java/lang/String", name := "isLatin1", desc := "()Z" } : Jvm.MethodName) jdk_42_method_154_code (1 : Nat) (Option.some Jvm.ClassFile.FieldType.boolean), Jvm.Cond.code ({ cls := "java/lang/StringLatin1", name := "charAt", desc := "([BI)C" } : Jvm.MethodName) jdk_43_method_2_code (2 : Nat) (Option.some Jvm.ClassFile.FieldType.char), Jvm.Cond.code ({ cls := "java/lang/String", name := "checkIndex", desc := "(II)V" } : Jvm.MethodName) jdk_42_method_155_code (2 : Nat) (Option.none : Option Jvm.ClassFile.FieldType), Jvm.Cond.code ({ cls := "jdk/internal/util/Preconditions", name := "checkIndex", desc := "(IILjava/util/function/BiFunction;)I" } : Jvm.MethodName) jdk_41_method_11_code (3 : Nat) (Option.some Jvm.ClassFile.FieldType.int), Jvm.Cond.code ({ cls := "com/example/uni_errors/unierrors/CorrelationHeaders", name := "idChar", desc := "(I)Z" } : Jvm.MethodName) prog_5_method_8_code (1 : Nat) (Option.some Jvm.ClassFile.FieldType.boolean), Jvm.Cond.code ({ cls := "com/example/uni_errors/unierrors/CorrelationHeaders", name := "asciiLetterOrDigit", desc := "(I)Z" } : Jvm.MethodName) prog_5_method_10_code (1 : Nat) (Option.some Jvm.ClassFile.FieldType.boolean), Jvm.Cond.code ({ cls := "java/lang/StringUTF16", name := "toBytes", desc := "([CII)[B" } : Jvm.MethodName) jdk_52_method_14_code (5 : Nat) (Option.some (Jvm.ClassFile.FieldType.array Jvm.ClassFile.FieldType.byte)), Jvm.Cond.code ({ cls := "java/lang/StringUTF16", name := "newBytesFor", desc := "(I)[B" } : Jvm.MethodName) jdk_52_method_2_code (1 : Nat) (Option.some (Jvm.ClassFile.FieldType.array Jvm.ClassFile.FieldType.byte)), Jvm.Cond.code ({ cls := "java/lang/StringUTF16", name := "newBytesLength", desc := "(I)I" } : Jvm.MethodName) jdk_52_method_3_code (1 : Nat) (Option.some Jvm.ClassFile.FieldType.int), Jvm.Cond.code ({ cls := "java/lang/StringUTF16", name := "putChar", desc := "([BII)V" } : Jvm.MethodName) jdk_52_method_4_code (3 : Nat) (Option.none : Option Jvm.ClassFile.FieldType), Jvm.Cond.code ({ cls := "java/lang/StringUTF16", name := "getChar", desc := "([BI)C" } : Jvm.MethodName) jdk_52_method_5_code (2 : Nat) (Option.some Jvm.ClassFile.FieldType.char), Jvm.Cond.code ({ cls := "java/lang/StringUTF16", name := "charAt", desc := "([BI)C" } : Jvm.MethodName) jdk_52_method_83_code (2 : Nat) (Option.some Jvm.ClassFile.FieldType.char), Jvm.Cond.code ({ cls := "java/lang/StringUTF16", name := "checkIndex", desc := "(I[B)V" } : Jvm.MethodName) jdk_52_method_91_code (2 : Nat) (Option.none : Option Jvm.ClassFile.FieldType), Jvm.Cond.code ({ cls := "java/lang/StringUTF16", name := "length", desc := "([B)I" } : Jvm.MethodName) jdk_52_method_6_code (1 : Nat) (Option.some Jvm.ClassFile.FieldType.int)]
set_option maxRecDepth 65536 in
theorem codes_eq : words1.filter isCode = codes1 := rfl
theorem w_codes : ∀ c ∈ words1.filter isCode, c.before args0 about1 = true := by
  rw [codes_eq]
  intro c hc
  simp only [codes1, List.mem_cons, List.not_mem_nil, or_false] at hc
  rcases hc with rfl | rfl | rfl | rfl | rfl | rfl | rfl | rfl | rfl | rfl | rfl | rfl | rfl | rfl | rfl | rfl | rfl | rfl | rfl | rfl | rfl | rfl | rfl | rfl | rfl | rfl | rfl
  · exact w_c0
  · exact w_c1
  · exact w_c2
  · exact w_c3
  · exact w_c4
  · exact w_c5
  · exact w_c6
  · exact w_c7
  · exact w_c8
  · exact w_c9
  · exact w_c10
  · exact w_c11
  · exact w_c12
  · exact w_c13
  · exact w_c14
  · exact w_c15
  · exact w_c16
  · exact w_c17
  · exact w_c18
  · exact w_c19
  · exact w_c20
  · exact w_c21
  · exact w_c22
  · exact w_c23
  · exact w_c24
  · exact w_c25
  · exact w_c26
set_option maxRecDepth 65536 in
theorem w_t1 : (words1.take 24).all (fun c => isCode c || c.before args0 about1) = true := by decide +kernel
set_option maxRecDepth 65536 in
theorem w_t2 : ((words1.drop 24).take 24).all (fun c => isCode c || c.before args0 about1) = true := by decide +kernel
set_option maxRecDepth 65536 in
theorem w_t3 : (((words1.drop 24).drop 24).take 24).all (fun c => isCode c || c.before args0 about1) = true := by decide +kernel
set_option maxRecDepth 65536 in
theorem w_t4 : ((((words1.drop 24).drop 24).drop 24).take 24).all (fun c => isCode c || c.before args0 about1) = true := by decide +kernel
set_option maxRecDepth 65536 in
theorem w_t5 : ((((words1.drop 24).drop 24).drop 24).drop 24).all (fun c => isCode c || c.before args0 about1) = true := by decide +kernel
theorem w_tables : (allAtoms (Jvm.Cond.code x code maxLocals ret :: tables_1)).before args0 about1 = true := by
  rw [allAtoms_all]
  show words1.all (fun c => c.before args0 about1) = true
  refine all_split ?_ w_codes
  rw [← List.take_append_drop 24 words1, List.all_append, w_t1, ← List.take_append_drop 24 (words1.drop 24), List.all_append, w_t2, ← List.take_append_drop 24 ((words1.drop 24).drop 24), List.all_append, w_t3, ← List.take_append_drop 24 (((words1.drop 24).drop 24).drop 24), List.all_append, w_t4, w_t5]
  rfl
set_option maxRecDepth 65536 in
theorem w_rest : rest_1_c.before args0 about1 = true := by decide +kernel
set_option maxRecDepth 65536 in
theorem w_case : (Jvm.Cond.and given_1 narrow_1).before args0 about1 = true := by decide +kernel
set_option maxRecDepth 65536 in
theorem w_consts : constsHeld consts_1 about1 := Jvm.Lit.constsHeldB_iff.mp (by decide +kernel)
theorem w_applies : (headSpec (Jvm.Cond.code x code maxLocals ret :: tables_1) room_1).applies x e0.platform about1 = true :=
  (Spec.applies_iff w_frames).mpr ⟨w_running, w_runnable, w_alone, w_named, w_hears, w_ripe, w_room, w_tables⟩
theorem atStart : AtStart classFile x code maxLocals ret World_1 tables_1 room_1 Calls_1 rest_1 Pre_1 launch0 p0 e0 about1 theMethod args0 below0 :=
  ⟨lists_1, trivial, launch0.admits_env _ _ _, launch0.least_env, fairChoices_fair.cas, fairChoices_fair.clock, w_frames, w_args, w_heap, w_applies, ⟨w_consts, trivial⟩, w_rest, w_case⟩
end start1
theorem witness_1 : WitnessClaimed_1 := ⟨start1.p0, start1.e0, start1.about1, start1.theMethod, start1.args0, start1.below0, start1.atStart⟩
end Jvm.Pilot.@@N@@

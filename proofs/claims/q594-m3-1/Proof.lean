import JvmDerived
import JvmDerived.Pilot.@@N@@Statement
import JvmDerived.Pilot.@@N@@Code
set_option linter.unusedVariables false
set_option linter.unusedSimpArgs false
namespace Jvm.Pilot.@@N@@
open Jvm Jvm.ClassFile Sem Op Lib Jvm.Free Jvm.Stand Jvm.LawKit Jvm.RoadKit Bundle Jvm.Pilot.@@N@@.Jvm.D
/-! THE LAYER own_: 'Ends': from this state the body ends as Q says; one lemma an instruction, over frames in the form mkF -/
section Own
variable {p : Program} {l : Launch} {e : Env} {R : Room} {s : State} {m : MethodId} {args : Array Value} {below : List Frame} {meth : Method} {c : Code} {T : State} {locs : List Loc} {cells slots : Nat}
variable {Q : Option Value → Heap → List Loc → Prop} {C S : Nat} {bc : ByteArray} {pc pc' : Nat} {Ls Ls' : Array Slot} {st : List Value} {Fz : Outcome → State → Prop}
def Ends (tb : Tables) (e : Env) (below : List Frame) (Fz : Outcome → State → Prop) (t : State) : Prop :=
  ∃ s₂ o, Steps tb e below t s₂ ∧ s₂.status = .running ∧ Ended s₂ below o ∧ Fz o s₂
def OwnFin (s : State) (Q : Option Value → Heap → List Loc → Prop) (C S : Nat) (o : Outcome) (s₂ : State) : Prop := ∃ v L, o = .returned v ∧ Q v s₂.heap L ∧ FrameEnd s o s₂ L C S
theorem Ends.of {tb : Tables} {t t' : State} (st : ∀ target, Steps tb e below t' target → Steps tb e below t target) (k : Ends tb e below Fz t') : Ends tb e below Fz t := by
  obtain ⟨s₂, o, h1, h2⟩ := k
  exact ⟨s₂, o, st _ h1, h2⟩
theorem Ends.tr {tb : Tables} {t t' : State} (st : Steps tb e below t t') (k : Ends tb e below Fz t') : Ends tb e below Fz t := Ends.of (fun _ q => st.trans q) k
theorem own_iloadN (X : Stand p l e R s m args below meth c T locs cells slots) (hx : p.tables.exec = Jvm.exec) (hby : c.code = bc) {k : Fin 4} {v : Int32} (hd : decode bc pc = .ok (.iload_n k, 1)) (hp : pc + 1 = pc') (hl : Ls[k.val]? = some (.val (.int v)))
    (kt : Ends p.tables e below Fz (T.setTop (mkF m pc' Ls (.int v :: st)))) : Ends p.tables e below Fz (T.setTop (mkF m pc Ls st)) := by
  subst hp; exact Ends.of (fun _ q => XS.iloadN X.here hx rfl (hb hby hd) hl q) kt
theorem own_iload (X : Stand p l e R s m args below meth c T locs cells slots) (hx : p.tables.exec = Jvm.exec) (hby : c.code = bc) {k : Nat} {v : Int32} (hd : decode bc pc = .ok (.iload k, 2)) (hp : pc + 2 = pc') (hl : Ls[k]? = some (.val (.int v)))
    (kt : Ends p.tables e below Fz (T.setTop (mkF m pc' Ls (.int v :: st)))) : Ends p.tables e below Fz (T.setTop (mkF m pc Ls st)) := by
  subst hp; exact Ends.of (fun _ q => XS.iload X.here hx rfl (hb hby hd) hl q) kt
theorem own_lloadN (X : Stand p l e R s m args below meth c T locs cells slots) (hx : p.tables.exec = Jvm.exec) (hby : c.code = bc) {k : Fin 4} {v : Int64} (hd : decode bc pc = .ok (.lload_n k, 1)) (hp : pc + 1 = pc') (hl : Ls[k.val]? = some (.val (.long v)))
    (kt : Ends p.tables e below Fz (T.setTop (mkF m pc' Ls (.long v :: st)))) : Ends p.tables e below Fz (T.setTop (mkF m pc Ls st)) := by
  subst hp; exact Ends.of (fun _ q => Jvm.Free.XT.lloadN X.here hx rfl (hb hby hd) hl q) kt
theorem own_lload (X : Stand p l e R s m args below meth c T locs cells slots) (hx : p.tables.exec = Jvm.exec) (hby : c.code = bc) {k : Nat} {v : Int64} (hd : decode bc pc = .ok (.lload k, 2)) (hp : pc + 2 = pc') (hl : Ls[k]? = some (.val (.long v)))
    (kt : Ends p.tables e below Fz (T.setTop (mkF m pc' Ls (.long v :: st)))) : Ends p.tables e below Fz (T.setTop (mkF m pc Ls st)) := by
  subst hp; exact Ends.of (fun _ q => Jvm.Free.XT.lload X.here hx rfl (hb hby hd) hl q) kt
theorem own_aloadN (X : Stand p l e R s m args below meth c T locs cells slots) (hx : p.tables.exec = Jvm.exec) (hby : c.code = bc) {k : Fin 4} {v : Value} (hd : decode bc pc = .ok (.aload_n k, 1)) (hp : pc + 1 = pc') (hl : Ls[k.val]? = some (.val v)) (hv : v.isRef = true)
    (kt : Ends p.tables e below Fz (T.setTop (mkF m pc' Ls (v :: st)))) : Ends p.tables e below Fz (T.setTop (mkF m pc Ls st)) := by
  subst hp; exact Ends.of (fun _ q => XS.aloadN X.here hx rfl (hb hby hd) hl hv q) kt
theorem own_aload (X : Stand p l e R s m args below meth c T locs cells slots) (hx : p.tables.exec = Jvm.exec) (hby : c.code = bc) {k : Nat} {v : Value} (hd : decode bc pc = .ok (.aload k, 2)) (hp : pc + 2 = pc') (hl : Ls[k]? = some (.val v)) (hv : v.isRef = true)
    (kt : Ends p.tables e below Fz (T.setTop (mkF m pc' Ls (v :: st)))) : Ends p.tables e below Fz (T.setTop (mkF m pc Ls st)) := by
  subst hp; exact Ends.of (fun _ q => XS.aload X.here hx rfl (hb hby hd) hl hv q) kt
theorem own_istore (X : Stand p l e R s m args below meth c T locs cells slots) (hx : p.tables.exec = Jvm.exec) (hby : c.code = bc) {k : Nat} {v : Int32} (hd : decode bc pc = .ok (.istore k, 2)) (hp : pc + 2 = pc') (Ls' : Array Slot) (hl : storeLocals Ls k (.int v) = some Ls')
    (kt : Ends p.tables e below Fz (T.setTop (mkF m pc' Ls' st))) : Ends p.tables e below Fz (T.setTop (mkF m pc Ls (.int v :: st))) := by
  subst hp; exact Ends.of (fun _ q => XS.istore X.here hx rfl (hb hby hd) rfl hl q) kt
theorem own_astoreN (X : Stand p l e R s m args below meth c T locs cells slots) (hx : p.tables.exec = Jvm.exec) (hby : c.code = bc) {k : Fin 4} {v : Value} (hd : decode bc pc = .ok (.astore_n k, 1)) (hp : pc + 1 = pc') (Ls' : Array Slot) (hv : v.isRef = true) (hl : storeLocals Ls k.val v = some Ls')
    (kt : Ends p.tables e below Fz (T.setTop (mkF m pc' Ls' st))) : Ends p.tables e below Fz (T.setTop (mkF m pc Ls (v :: st))) := by
  subst hp; exact Ends.of (fun _ q => XS.astoreN X.here hx rfl (hb hby hd) rfl hv hl q) kt
theorem own_astore (X : Stand p l e R s m args below meth c T locs cells slots) (hx : p.tables.exec = Jvm.exec) (hby : c.code = bc) {k : Nat} {v : Value} (hd : decode bc pc = .ok (.astore k, 2)) (hp : pc + 2 = pc') (Ls' : Array Slot) (hv : v.isRef = true) (hl : storeLocals Ls k v = some Ls')
    (kt : Ends p.tables e below Fz (T.setTop (mkF m pc' Ls' st))) : Ends p.tables e below Fz (T.setTop (mkF m pc Ls (v :: st))) := by
  subst hp; exact Ends.of (fun _ q => XS.astore X.here hx rfl (hb hby hd) rfl hv hl q) kt
theorem own_iconst (X : Stand p l e R s m args below meth c T locs cells slots) (hx : p.tables.exec = Jvm.exec) (hby : c.code = bc) {i : Int} (hd : decode bc pc = .ok (.iconst i, 1)) (hp : pc + 1 = pc') (v : Int32) (hv : Int32.ofInt i = v)
    (kt : Ends p.tables e below Fz (T.setTop (mkF m pc' Ls (.int v :: st)))) : Ends p.tables e below Fz (T.setTop (mkF m pc Ls st)) := by
  subst hp; exact Ends.of (fun _ q => by subst hv; exact XS.iconst X.here hx rfl (hb hby hd) q) kt
theorem own_bipush (X : Stand p l e R s m args below meth c T locs cells slots) (hx : p.tables.exec = Jvm.exec) (hby : c.code = bc) {i : Int} (hd : decode bc pc = .ok (.bipush i, 2)) (hp : pc + 2 = pc') (v : Int32) (hv : (Int8.ofInt i).toInt32 = v)
    (kt : Ends p.tables e below Fz (T.setTop (mkF m pc' Ls (.int v :: st)))) : Ends p.tables e below Fz (T.setTop (mkF m pc Ls st)) := by
  subst hp; exact Ends.of (fun _ q => by subst hv; exact XS.bipush X.here hx rfl (hb hby hd) q) kt
theorem own_sipush (X : Stand p l e R s m args below meth c T locs cells slots) (hx : p.tables.exec = Jvm.exec) (hby : c.code = bc) {i : Int} (hd : decode bc pc = .ok (.sipush i, 3)) (hp : pc + 3 = pc') (v : Int32) (hv : (Int16.ofInt i).toInt32 = v)
    (kt : Ends p.tables e below Fz (T.setTop (mkF m pc' Ls (.int v :: st)))) : Ends p.tables e below Fz (T.setTop (mkF m pc Ls st)) := by
  subst hp; exact Ends.of (fun _ q => by subst hv; exact XS.sipush X.here hx rfl (hb hby hd) q) kt
theorem own_lconst (X : Stand p l e R s m args below meth c T locs cells slots) (hx : p.tables.exec = Jvm.exec) (hby : c.code = bc) {i : Fin 2} (hd : decode bc pc = .ok (.lconst i, 1)) (hp : pc + 1 = pc') (v : Int64) (hv : Int64.ofNat i = v)
    (kt : Ends p.tables e below Fz (T.setTop (mkF m pc' Ls (.long v :: st)))) : Ends p.tables e below Fz (T.setTop (mkF m pc Ls st)) := by
  subst hp; exact Ends.of (fun _ q => by subst hv; exact Jvm.Free.XT.lconst X.here hx rfl (hb hby hd) q) kt
theorem own_aconstNull (X : Stand p l e R s m args below meth c T locs cells slots) (hx : p.tables.exec = Jvm.exec) (hby : c.code = bc)  (hd : decode bc pc = .ok (.aconst_null, 1)) (hp : pc + 1 = pc')
    (kt : Ends p.tables e below Fz (T.setTop (mkF m pc' Ls (.null :: st)))) : Ends p.tables e below Fz (T.setTop (mkF m pc Ls st)) := by
  subst hp; exact Ends.of (fun _ q => XS.aconstNull X.here hx rfl (hb hby hd) q) kt
theorem own_iadd (X : Stand p l e R s m args below meth c T locs cells slots) (hx : p.tables.exec = Jvm.exec) (hby : c.code = bc) {x y : Int32} (hd : decode bc pc = .ok (.iadd, 1)) (hp : pc + 1 = pc')
    (kt : Ends p.tables e below Fz (T.setTop (mkF m pc' Ls (.int (x + y) :: st)))) : Ends p.tables e below Fz (T.setTop (mkF m pc Ls (.int y :: .int x :: st))) := by
  subst hp; exact Ends.of (fun _ q => XS.iadd X.here hx rfl (hb hby hd) rfl q) kt
theorem own_iand (X : Stand p l e R s m args below meth c T locs cells slots) (hx : p.tables.exec = Jvm.exec) (hby : c.code = bc) {x y : Int32} (hd : decode bc pc = .ok (.iand, 1)) (hp : pc + 1 = pc')
    (kt : Ends p.tables e below Fz (T.setTop (mkF m pc' Ls (.int (x &&& y) :: st)))) : Ends p.tables e below Fz (T.setTop (mkF m pc Ls (.int y :: .int x :: st))) := by
  subst hp; exact Ends.of (fun _ q => XS.iand X.here hx rfl (hb hby hd) rfl q) kt
theorem own_land (X : Stand p l e R s m args below meth c T locs cells slots) (hx : p.tables.exec = Jvm.exec) (hby : c.code = bc) {x y : Int64} (hd : decode bc pc = .ok (.land, 1)) (hp : pc + 1 = pc')
    (kt : Ends p.tables e below Fz (T.setTop (mkF m pc' Ls (.long (x &&& y) :: st)))) : Ends p.tables e below Fz (T.setTop (mkF m pc Ls (.long y :: .long x :: st))) := by
  subst hp; exact Ends.of (fun _ q => Jvm.Free.XT.land X.here hx rfl (hb hby hd) rfl q) kt
theorem own_lshr (X : Stand p l e R s m args below meth c T locs cells slots) (hx : p.tables.exec = Jvm.exec) (hby : c.code = bc) {x : Int64} {y : Int32} (hd : decode bc pc = .ok (.lshr, 1)) (hp : pc + 1 = pc')
    (kt : Ends p.tables e below Fz (T.setTop (mkF m pc' Ls (.long (x >>> (y.toInt64 &&& 63)) :: st)))) : Ends p.tables e below Fz (T.setTop (mkF m pc Ls (.int y :: .long x :: st))) := by
  subst hp; exact Ends.of (fun _ q => Jvm.Free.XT.lshr X.here hx rfl (hb hby hd) rfl q) kt
theorem own_lushr (X : Stand p l e R s m args below meth c T locs cells slots) (hx : p.tables.exec = Jvm.exec) (hby : c.code = bc) {x : Int64} {y : Int32} (hd : decode bc pc = .ok (.lushr, 1)) (hp : pc + 1 = pc')
    (kt : Ends p.tables e below Fz (T.setTop (mkF m pc' Ls (.long ((x.toUInt64 >>> (y.toInt64.toUInt64 &&& Int64.toUInt64 63)).toInt64) :: st)))) : Ends p.tables e below Fz (T.setTop (mkF m pc Ls (.int y :: .long x :: st))) := by
  subst hp; exact Ends.of (fun _ q => Jvm.Free.XT.lushr X.here hx rfl (hb hby hd) rfl q) kt
theorem own_i2l (X : Stand p l e R s m args below meth c T locs cells slots) (hx : p.tables.exec = Jvm.exec) (hby : c.code = bc) {x : Int32} (hd : decode bc pc = .ok (.i2l, 1)) (hp : pc + 1 = pc')
    (kt : Ends p.tables e below Fz (T.setTop (mkF m pc' Ls (.long x.toInt64 :: st)))) : Ends p.tables e below Fz (T.setTop (mkF m pc Ls (.int x :: st))) := by
  subst hp; exact Ends.of (fun _ q => Jvm.Free.XT.i2l X.here hx rfl (hb hby hd) rfl q) kt
theorem own_l2i (X : Stand p l e R s m args below meth c T locs cells slots) (hx : p.tables.exec = Jvm.exec) (hby : c.code = bc) {x : Int64} (hd : decode bc pc = .ok (.l2i, 1)) (hp : pc + 1 = pc')
    (kt : Ends p.tables e below Fz (T.setTop (mkF m pc' Ls (.int x.toInt32 :: st)))) : Ends p.tables e below Fz (T.setTop (mkF m pc Ls (.long x :: st))) := by
  subst hp; exact Ends.of (fun _ q => Jvm.Free.XT.l2i X.here hx rfl (hb hby hd) rfl q) kt
theorem own_i2b (X : Stand p l e R s m args below meth c T locs cells slots) (hx : p.tables.exec = Jvm.exec) (hby : c.code = bc) {x : Int32} (hd : decode bc pc = .ok (.i2b, 1)) (hp : pc + 1 = pc')
    (kt : Ends p.tables e below Fz (T.setTop (mkF m pc' Ls (.int x.toInt8.toInt32 :: st)))) : Ends p.tables e below Fz (T.setTop (mkF m pc Ls (.int x :: st))) := by
  subst hp; exact Ends.of (fun _ q => Jvm.Free.XT.i2b X.here hx rfl (hb hby hd) rfl q) kt
theorem own_i2c (X : Stand p l e R s m args below meth c T locs cells slots) (hx : p.tables.exec = Jvm.exec) (hby : c.code = bc) {x : Int32} (hd : decode bc pc = .ok (.i2c, 1)) (hp : pc + 1 = pc')
    (kt : Ends p.tables e below Fz (T.setTop (mkF m pc' Ls (.int x.toUInt32.toUInt16.toUInt32.toInt32 :: st)))) : Ends p.tables e below Fz (T.setTop (mkF m pc Ls (.int x :: st))) := by
  subst hp; exact Ends.of (fun _ q => Jvm.Free.XT.i2c X.here hx rfl (hb hby hd) rfl q) kt
theorem own_dup (X : Stand p l e R s m args below meth c T locs cells slots) (hx : p.tables.exec = Jvm.exec) (hby : c.code = bc) {v : Value} (hd : decode bc pc = .ok (.dup, 1)) (hp : pc + 1 = pc') (hc : v.category = 1)
    (kt : Ends p.tables e below Fz (T.setTop (mkF m pc' Ls (v :: v :: st)))) : Ends p.tables e below Fz (T.setTop (mkF m pc Ls (v :: st))) := by
  subst hp; exact Ends.of (fun _ q => XS.dup X.here hx rfl (hb hby hd) rfl hc q) kt
theorem own_goto (X : Stand p l e R s m args below meth c T locs cells slots) (hx : p.tables.exec = Jvm.exec) (hby : c.code = bc) {o : Int} (hd : decode bc pc = .ok (.goto o, 3)) (hp : (pc : Int) + o = (pc' : Int)) (kt : Ends p.tables e below Fz (T.setTop (mkF m pc' Ls st))) : Ends p.tables e below Fz (T.setTop (mkF m pc Ls st)) :=
  Ends.of (fun _ q => XS.goto X.here hx rfl (pc0 := pc) (pc' := pc') rfl (hb hby hd) (by rw [hp]; exact Int.natCast_nonneg _) (by rw [hp]; rfl) q) kt
theorem own_icmp_eq (X : Stand p l e R s m args below meth c T locs cells slots) (hx : p.tables.exec = Jvm.exec) (hby : c.code = bc) {x y : Int32} {o : Int} {pcY pcN : Nat} (hd : decode bc pc = .ok (.if_icmp .eq o, 3)) (hpY : (pc : Int) + o = (pcY : Int)) (hpN : pc + 3 = pcN) (kY : x = y → Ends p.tables e below Fz (T.setTop (mkF m pcY Ls st))) (kN : ¬ x = y → Ends p.tables e below Fz (T.setTop (mkF m pcN Ls st))) : Ends p.tables e below Fz (T.setTop (mkF m pc Ls (.int y :: .int x :: st))) := by
  subst hpN; by_cases h : x = y
  · exact Ends.of (fun _ q => XS.icmpYes X.here hx rfl (pc0 := pc) (pc' := pcY) rfl (hb hby hd) rfl (Jvm.Free.XT.ii_eq_t h) (by rw [hpY]; exact Int.natCast_nonneg _) (by rw [hpY]; rfl) q) (kY h)
  · exact Ends.of (fun _ q => XS.icmpNo X.here hx rfl (hb hby hd) rfl (Jvm.Free.XT.ii_eq_f h) q) (kN h)
theorem own_icmp_ne (X : Stand p l e R s m args below meth c T locs cells slots) (hx : p.tables.exec = Jvm.exec) (hby : c.code = bc) {x y : Int32} {o : Int} {pcY pcN : Nat} (hd : decode bc pc = .ok (.if_icmp .ne o, 3)) (hpY : (pc : Int) + o = (pcY : Int)) (hpN : pc + 3 = pcN) (kY : ¬ x = y → Ends p.tables e below Fz (T.setTop (mkF m pcY Ls st))) (kN : x = y → Ends p.tables e below Fz (T.setTop (mkF m pcN Ls st))) : Ends p.tables e below Fz (T.setTop (mkF m pc Ls (.int y :: .int x :: st))) := by
  subst hpN; by_cases h : x = y
  · exact Ends.of (fun _ q => XS.icmpNo X.here hx rfl (hb hby hd) rfl (Jvm.Free.XT.ii_ne_f h) q) (kN h)
  · exact Ends.of (fun _ q => XS.icmpYes X.here hx rfl (pc0 := pc) (pc' := pcY) rfl (hb hby hd) rfl (Jvm.Free.XT.ii_ne_t h) (by rw [hpY]; exact Int.natCast_nonneg _) (by rw [hpY]; rfl) q) (kY h)
theorem own_icmp_lt (X : Stand p l e R s m args below meth c T locs cells slots) (hx : p.tables.exec = Jvm.exec) (hby : c.code = bc) {x y : Int32} {o : Int} {pcY pcN : Nat} (hd : decode bc pc = .ok (.if_icmp .lt o, 3)) (hpY : (pc : Int) + o = (pcY : Int)) (hpN : pc + 3 = pcN) (kY : x.toInt < y.toInt → Ends p.tables e below Fz (T.setTop (mkF m pcY Ls st))) (kN : y.toInt ≤ x.toInt → Ends p.tables e below Fz (T.setTop (mkF m pcN Ls st))) : Ends p.tables e below Fz (T.setTop (mkF m pc Ls (.int y :: .int x :: st))) := by
  subst hpN; by_cases h : x < y
  · exact Ends.of (fun _ q => XS.icmpYes X.here hx rfl (pc0 := pc) (pc' := pcY) rfl (hb hby hd) rfl (Jvm.Free.XT.ii_lt_t h) (by rw [hpY]; exact Int.natCast_nonneg _) (by rw [hpY]; rfl) q) (kY (Int32.lt_iff_toInt_lt.mp h))
  · exact Ends.of (fun _ q => XS.icmpNo X.here hx rfl (hb hby hd) rfl (Jvm.Free.XT.ii_lt_f h) q) (kN (Int.not_lt.mp fun q => h (Int32.lt_iff_toInt_lt.mpr q)))
theorem own_icmp_gt (X : Stand p l e R s m args below meth c T locs cells slots) (hx : p.tables.exec = Jvm.exec) (hby : c.code = bc) {x y : Int32} {o : Int} {pcY pcN : Nat} (hd : decode bc pc = .ok (.if_icmp .gt o, 3)) (hpY : (pc : Int) + o = (pcY : Int)) (hpN : pc + 3 = pcN) (kY : y.toInt < x.toInt → Ends p.tables e below Fz (T.setTop (mkF m pcY Ls st))) (kN : x.toInt ≤ y.toInt → Ends p.tables e below Fz (T.setTop (mkF m pcN Ls st))) : Ends p.tables e below Fz (T.setTop (mkF m pc Ls (.int y :: .int x :: st))) := by
  subst hpN; by_cases h : y < x
  · exact Ends.of (fun _ q => XS.icmpYes X.here hx rfl (pc0 := pc) (pc' := pcY) rfl (hb hby hd) rfl (Jvm.Free.XT.ii_gt_t h) (by rw [hpY]; exact Int.natCast_nonneg _) (by rw [hpY]; rfl) q) (kY (Int32.lt_iff_toInt_lt.mp h))
  · exact Ends.of (fun _ q => XS.icmpNo X.here hx rfl (hb hby hd) rfl (Jvm.Free.XT.ii_gt_f h) q) (kN (Int.not_lt.mp fun q => h (Int32.lt_iff_toInt_lt.mpr q)))
theorem own_if_eq (X : Stand p l e R s m args below meth c T locs cells slots) (hx : p.tables.exec = Jvm.exec) (hby : c.code = bc) {x : Int32} {o : Int} {pcY pcN : Nat} (hd : decode bc pc = .ok (.ifCond .eq o, 3)) (hpY : (pc : Int) + o = (pcY : Int)) (hpN : pc + 3 = pcN) (kY : x = 0 → Ends p.tables e below Fz (T.setTop (mkF m pcY Ls st))) (kN : ¬ x = 0 → Ends p.tables e below Fz (T.setTop (mkF m pcN Ls st))) : Ends p.tables e below Fz (T.setTop (mkF m pc Ls (.int x :: st))) := by
  subst hpN; by_cases h : x = (0 : Int32)
  · exact Ends.of (fun _ q => XS.ifYes X.here hx rfl (pc0 := pc) (pc' := pcY) rfl (hb hby hd) rfl (Jvm.Free.XT.i0_eq_t h) (by rw [hpY]; exact Int.natCast_nonneg _) (by rw [hpY]; rfl) q) (kY h)
  · exact Ends.of (fun _ q => XS.ifNo X.here hx rfl (hb hby hd) rfl (Jvm.Free.XT.i0_eq_f h) q) (kN h)
theorem own_if_ne (X : Stand p l e R s m args below meth c T locs cells slots) (hx : p.tables.exec = Jvm.exec) (hby : c.code = bc) {x : Int32} {o : Int} {pcY pcN : Nat} (hd : decode bc pc = .ok (.ifCond .ne o, 3)) (hpY : (pc : Int) + o = (pcY : Int)) (hpN : pc + 3 = pcN) (kY : ¬ x = 0 → Ends p.tables e below Fz (T.setTop (mkF m pcY Ls st))) (kN : x = 0 → Ends p.tables e below Fz (T.setTop (mkF m pcN Ls st))) : Ends p.tables e below Fz (T.setTop (mkF m pc Ls (.int x :: st))) := by
  subst hpN; by_cases h : x = (0 : Int32)
  · exact Ends.of (fun _ q => XS.ifNo X.here hx rfl (hb hby hd) rfl (Jvm.Free.XT.i0_ne_f h) q) (kN h)
  · exact Ends.of (fun _ q => XS.ifYes X.here hx rfl (pc0 := pc) (pc' := pcY) rfl (hb hby hd) rfl (Jvm.Free.XT.i0_ne_t h) (by rw [hpY]; exact Int.natCast_nonneg _) (by rw [hpY]; rfl) q) (kY h)
theorem own_if_le (X : Stand p l e R s m args below meth c T locs cells slots) (hx : p.tables.exec = Jvm.exec) (hby : c.code = bc) {x : Int32} {o : Int} {pcY pcN : Nat} (hd : decode bc pc = .ok (.ifCond .le o, 3)) (hpY : (pc : Int) + o = (pcY : Int)) (hpN : pc + 3 = pcN) (kY : x.toInt ≤ (0 : Int) → Ends p.tables e below Fz (T.setTop (mkF m pcY Ls st))) (kN : (0 : Int) < x.toInt → Ends p.tables e below Fz (T.setTop (mkF m pcN Ls st))) : Ends p.tables e below Fz (T.setTop (mkF m pc Ls (.int x :: st))) := by
  subst hpN; by_cases h : (0 : Int32) < x
  · exact Ends.of (fun _ q => XS.ifNo X.here hx rfl (hb hby hd) rfl (Jvm.Free.XT.i0_le_f h) q) (kN (Int32.lt_iff_toInt_lt.mp h))
  · exact Ends.of (fun _ q => XS.ifYes X.here hx rfl (pc0 := pc) (pc' := pcY) rfl (hb hby hd) rfl (Jvm.Free.XT.i0_le_t h) (by rw [hpY]; exact Int.natCast_nonneg _) (by rw [hpY]; rfl) q) (kY (Int.not_lt.mp fun q => h (Int32.lt_iff_toInt_lt.mpr q)))
theorem own_lcmp_ge (X : Stand p l e R s m args below meth c T locs cells slots) (hx : p.tables.exec = Jvm.exec) (hby : c.code = bc) {x y : Int64} {o : Int} {pcY pcN : Nat} (hc : decode bc pc = .ok (.lcmp, 1)) (hd : decode bc (pc + 1) = .ok (.ifCond .ge o, 3)) (hpY : ((pc + 1 : Nat) : Int) + o = (pcY : Int)) (hpN : pc + 1 + 3 = pcN) (kY : y.toInt ≤ x.toInt → Ends p.tables e below Fz (T.setTop (mkF m pcY Ls st))) (kN : x.toInt < y.toInt → Ends p.tables e below Fz (T.setTop (mkF m pcN Ls st))) : Ends p.tables e below Fz (T.setTop (mkF m pc Ls (.long y :: .long x :: st))) := by
  subst hpN; by_cases h : x < y
  · exact Ends.of (fun _ q => Jvm.Free.XT.lcmp X.here hx rfl (hb hby hc) rfl (XS.ifNo X.here hx rfl (hb hby hd) rfl (Jvm.Free.XT.ll_ge_f h) q)) (kN (Int64.lt_iff_toInt_lt.mp h))
  · exact Ends.of (fun _ q => Jvm.Free.XT.lcmp X.here hx rfl (hb hby hc) rfl (XS.ifYes X.here hx rfl (pc0 := pc + 1) (pc' := pcY) rfl (hb hby hd) rfl (Jvm.Free.XT.ll_ge_t h) (by rw [hpY]; exact Int.natCast_nonneg _) (by rw [hpY]; rfl) q)) (kY (Int.not_lt.mp fun q => h (Int64.lt_iff_toInt_lt.mpr q)))
theorem own_acmp_eq (X : Stand p l e R s m args below meth c T locs cells slots) (hx : p.tables.exec = Jvm.exec) (hby : c.code = bc) {x y : Value} {o : Int} {pcY pcN : Nat} (hd : decode bc pc = .ok (.if_acmp .eq o, 3)) (hpY : (pc : Int) + o = (pcY : Int)) (hpN : pc + 3 = pcN) (h1 : x.isRef = true) (h2 : y.isRef = true) (kY : x = y → Ends p.tables e below Fz (T.setTop (mkF m pcY Ls st))) (kN : ¬ x = y → Ends p.tables e below Fz (T.setTop (mkF m pcN Ls st))) : Ends p.tables e below Fz (T.setTop (mkF m pc Ls (y :: x :: st))) := by
  subst hpN; by_cases h : x = y
  · exact Ends.of (fun _ q => Jvm.RoadKit.acmp (g := mkF m pc Ls (y :: x :: st)) X hx rfl h1 h2 (pc0 := pc) (same := true) rfl (hb hby hd) rfl (decide_eq_true h) (by rw [hpY]; exact Int.natCast_nonneg _) rfl (by simpa [acV, hpY] using q)) (kY h)
  · exact Ends.of (fun _ q => Jvm.RoadKit.acmp (g := mkF m pc Ls (y :: x :: st)) X hx rfl h1 h2 (pc0 := pc) (same := false) rfl (hb hby hd) rfl (decide_eq_false h) (by rw [hpY]; exact Int.natCast_nonneg _) rfl (by simpa [acV] using q)) (kN h)
theorem own_ifnullYes (X : Stand p l e R s m args below meth c T locs cells slots) (hx : p.tables.exec = Jvm.exec) (hby : c.code = bc) {o : Int} {pcY : Nat} (hd : decode bc pc = .ok (.ifnull o, 3)) (hpY : (pc : Int) + o = (pcY : Int)) (kt : Ends p.tables e below Fz (T.setTop (mkF m pcY Ls st))) : Ends p.tables e below Fz (T.setTop (mkF m pc Ls (.null :: st))) :=
  Ends.of (fun _ q => XS.ifnullYes X.here hx rfl (pc0 := pc) (pc' := pcY) rfl (hb hby hd) rfl (by rw [hpY]; exact Int.natCast_nonneg _) (by rw [hpY]; rfl) q) kt
theorem own_ifnullNo (X : Stand p l e R s m args below meth c T locs cells slots) (hx : p.tables.exec = Jvm.exec) (hby : c.code = bc) {b : Addr} {o : Int} (hd : decode bc pc = .ok (.ifnull o, 3)) (hp : pc + 3 = pc') (kt : Ends p.tables e below Fz (T.setTop (mkF m pc' Ls st))) : Ends p.tables e below Fz (T.setTop (mkF m pc Ls (.ref b :: st))) := by
  subst hp; exact Ends.of (fun _ q => XS.ifnullNo X.here hx rfl (hb hby hd) rfl q) kt
theorem own_ifnonnullYes (X : Stand p l e R s m args below meth c T locs cells slots) (hx : p.tables.exec = Jvm.exec) (hby : c.code = bc) {b : Addr} {o : Int} {pcY : Nat} (hd : decode bc pc = .ok (.ifnonnull o, 3)) (hpY : (pc : Int) + o = (pcY : Int)) (kt : Ends p.tables e below Fz (T.setTop (mkF m pcY Ls st))) : Ends p.tables e below Fz (T.setTop (mkF m pc Ls (.ref b :: st))) :=
  Ends.of (fun _ q => Jvm.Free.XT.ifnonnullYes X.here hx rfl (pc0 := pc) (pc' := pcY) rfl (hb hby hd) rfl (by rw [hpY]; exact Int.natCast_nonneg _) (by rw [hpY]; rfl) q) kt
theorem own_ifnonnullNo (X : Stand p l e R s m args below meth c T locs cells slots) (hx : p.tables.exec = Jvm.exec) (hby : c.code = bc) {o : Int} (hd : decode bc pc = .ok (.ifnonnull o, 3)) (hp : pc + 3 = pc') (kt : Ends p.tables e below Fz (T.setTop (mkF m pc' Ls st))) : Ends p.tables e below Fz (T.setTop (mkF m pc Ls (.null :: st))) := by
  subst hp; exact Ends.of (fun _ q => Jvm.Free.XT.ifnonnullNo X.here hx rfl (hb hby hd) rfl q) kt
theorem own_ret (X : Stand p l e R s m args below meth c T locs cells slots) (hx : p.tables.exec = Jvm.exec) (hby : c.code = bc) {v : Value} {t : FieldType} {i : Instr} (hret : meth.sig.returnType = some t) (hk : meth.locks = false) (hd : decode bc pc = .ok (i, 1)) (v' : Value) (hn : narrow t v = v')
    (hi : (i = .ireturn ∧ (t = .int ∨ t = .boolean ∨ t = .byte ∨ t = .char ∨ t = .short) ∧ ∃ z, v = .int z) ∨ (i = .lreturn ∧ t = .long ∧ ∃ z, v = .long z) ∨ (i = .areturn ∧ t.isReference = true ∧ v.isRef = true))
    (hC : cells ≤ C) (hS : slots ≤ S) (q : Q (some v') T.heap locs) : Ends p.tables e below (OwnFin s Q C S) (T.setTop (mkF m pc Ls (v :: st))) := by
  obtain ⟨fs, hr, hrun, hended, hW, hsame⟩ := X.leave (v := some v') (fun h => by rw [hret] at h; cases h) hk
  refine ⟨_, _, ?_, hrun, hended, _, _, rfl, q, ⟨_, rfl⟩, hW, hsame.mono hC hS⟩
  have hm' : T.vm.method? m = some meth := X.method'
  show Steps p.tables e below (T.setTop { method := m, pc := pc, locals := Ls, stack := v :: st, locked := none }) _
  have hd' := hb hby hd
  rcases hi with ⟨rfl, ht, z, rfl⟩ | ⟨rfl, rfl, z, rfl⟩ | ⟨rfl, ht, hv⟩
  · rcases ht with rfl | rfl | rfl | rfl | rfl <;> (jvm_step X.here [X.here.top, hx, hd', hm', hret, hn]; first | (intro acts; rw [hr _ acts rfl rfl rfl]) | rw [hr _ _ rfl rfl rfl]) <;> exact Steps.refl _
  · have hn2 : Value.long z = v' := hn
    subst hn2
    jvm_step X.here [X.here.top, hx, hd', hm', hret, hn]
    first | (intro acts; rw [hr _ acts rfl rfl rfl]) | rw [hr _ _ rfl rfl rfl]
    exact Steps.refl _
  · have hn2 : v = v' := by rw [← hn]; rcases ref_cases hv with rfl | ⟨z, rfl⟩ <;> cases t <;> rfl
    subst hn2
    jvm_step X.here [X.here.top, hx, hd', hm', hret, hn, ht, hv]
    first | (intro acts; rw [hr _ acts rfl rfl rfl]) | rw [hr _ _ rfl rfl rfl]
    exact Steps.refl _
theorem own_retV (X : Stand p l e R s m args below meth c T locs cells slots) (hx : p.tables.exec = Jvm.exec) (hby : c.code = bc) (hret : meth.sig.returnType = none) (hk : meth.locks = false) (hd : decode bc pc = .ok (.return_, 1)) (hC : cells ≤ C) (hS : slots ≤ S) (q : Q none T.heap locs) : Ends p.tables e below (OwnFin s Q C S) (T.setTop (mkF m pc Ls [])) := by
  obtain ⟨fs, hr, hrun, hended, hW, hsame⟩ := X.leave (v := none) (fun _ => rfl) hk
  exact ⟨_, _, X.returnOut hx hret (hb hby hd) hr, hrun, hended, _, _, rfl, q, ⟨_, rfl⟩, hW, hsame.mono hC hS⟩
end Own
section OwnH
variable {p : Program} {l : Launch} {e : Env} {R : Room} {s : State} {m : MethodId} {args : Array Value} {below : List Frame} {meth : Method} {c : Code} {T : State} {locs : List Loc} {cells slots : Nat}
variable {Fz : Outcome → State → Prop} {bc : ByteArray} {pc pc' : Nat} {Ls Ls' : Array Slot} {st : List Value}
variable {Z : State} {a0 : Array Value} {h h0 : Heap} {n0 : Nat}
abbrev OwnMet (l : Launch) (Z : State) (y : MethodName) (bytes : ByteArray) (maxL : Nat) (rt : Option FieldType) (ws : List Jvm.Cond) (rm : Room) (as' : Array Value) (h0 : Heap) (Qc : Option Value → Heap → List Loc → Prop) : Prop :=
  MetFree l y (head1 (Jvm.Cond.code y bytes maxL rt :: ws) rm) (fun a U => a = as' ∧ Z.Warmed39 U.vm ∧ U.heap = h0) (fun _ _ _ _ _ => True) (fun _ U o U' => ∃ v L, o = .returned v ∧ Qc v U'.heap L ∧ FrameEnd U o U' L rm.cells rm.slots)
theorem own_body {y : MethodName} {bytes : ByteArray} {maxL : Nat} {rt : Option FieldType} {ws : List Jvm.Cond} {rm : Room} {as' : Array Value} {Qc : Option Value → Heap → List Loc → Prop} {Ls0 : Array Slot} (hpl : plainFor y = true) (hef : ∀ m : MethodId, entryFrame m as' maxL = mkF m 0 Ls0 [])
    (body : ∀ (p : Program) (e : Env) (s : State) (m : MethodId) (below : List Frame) (meth : Method) (c : Code) (s₁ : State), Stand p l e rm s m as' below meth c s₁ [] 0 0 → p.tables.exec = Jvm.exec → c.code = bytes → c.maxLocals = maxL → s.vm.findClass y.cls = some m.cls → meth.name = y.name → meth.sig.returnType = rt → meth.locks = false → Z.Warmed39 s.vm → s₁.heap = h0 → Ends p.tables e below (OwnFin s Qc rm.cells rm.slots) (s₁.setTop (mkF m 0 Ls0 []))) :
    OwnMet l Z y bytes maxL rt ws rm as' h0 Qc := by
  refine MetFree.of_bodySF hpl hisR ?_
  intro p e s m args below meth c s₁ Bd hml0 hP hK
  obtain ⟨rfl, hZ, hh⟩ := hP
  have e0 : s₁.heap = h0 := by rw [← hh, Bd.state]; rfl
  rw [hef]
  exact body p e s m below meth c s₁ (Stand.of_body Bd) Bd.exec Bd.bytes hml0 (findClass_of_methodNamed Bd.named) (name_of_methodNamed Bd.named Bd.method).1 Bd.returns Bd.notSynchronized hZ e0
theorem own_static (X : Stand p l e R s m args below meth c T locs cells slots) (hx : p.tables.exec = Jvm.exec) (hby : c.code = bc) (hZ : Z.Warmed39 s.vm) {own : String} {index : Nat} {y : MethodName} {bytes : ByteArray} {maxL : Nat} {rt r : Option FieldType} {ps : List FieldType} {rm : Room} {argsL rest : List Value} {Qc : Option Value → Heap → List Loc → Prop} {W : Nat}
    (hown : s.vm.findClass own = some m.cls) (w1 : (Jvm.Cond.methodLink own index y).before a0 Z = true) (w2 : (Jvm.Cond.static y).before a0 Z = true) (w3 : (Jvm.Cond.initialized y.cls).before a0 Z = true) (w4 : (Jvm.Cond.code y bytes maxL rt).before a0 Z = true) (hy : y.cls ≠ "java/lang/invoke/MethodHandle" ∧ y.cls ≠ "java/lang/invoke/VarHandle")
    (hM : OwnMet l Z y bytes maxL rt [] rm argsL.toArray h Qc) (eT : T.heap = h) (hml : Ls.size = c.maxLocals) (hlen : parseMethodDescriptor y.desc = some ⟨ps, r⟩) (hl : argsL.length = ps.length) (hf : rm.frames + 1 ≤ R.frames) (hW : (rest.map fun v => v.category).sum ≤ W) (hlo : W + (maxL + 11) + rm.locals ≤ R.locals) (hc : cells + rm.cells ≤ R.cells) (hs : slots + rm.slots ≤ R.slots)
    (hd : decode bc pc = .ok (.invokestatic index, 3)) (hp : pc + 3 = pc') (hst : st = argsL.reverse ++ rest)
    (kt : ∀ v T' L, Stand p l e R s m args below meth c T' (locs ++ L) (cells + rm.cells) (slots + rm.slots) → Qc v T'.heap L → Ends p.tables e below Fz (T'.setTop (mkF m pc' Ls (v.toList ++ rest)))) : Ends p.tables e below Fz (T.setTop (mkF m pc Ls st)) := by
  subst hp hst
  obtain ⟨v, vm₁, ⟨T', L', k', n'⟩, -, X', ⟨Lc, hQ, l', y', z'⟩, st⟩ := Jvm.LawKit.callS X hx (y := y) hown (mvT hZ w1) (mvT hZ w2) (mvT hZ w3) (mvT hZ w4) hy (backOf (W := W) hM hZ w4 w3 hf hlo) (g := mkF m pc Ls (argsL.reverse ++ rest)) rfl hml (argsL := argsL) (rest := rest) (lenOf hlen hl) rfl (by show 2 * 0 + _ ≤ _; omega) (hb hby hd) (fun _ _ => ⟨rfl, eT, hc, hs⟩)
  dsimp only [Pt.U, Pt.locs, Pt.cells, Pt.slots] at X' l' y' z' st hQ
  subst l' y' z'
  exact Ends.of st (kt v T' Lc X' hQ)
theorem own_special (X : Stand p l e R s m args below meth c T locs cells slots) (hx : p.tables.exec = Jvm.exec) (hby : c.code = bc) (hZ : Z.Warmed39 s.vm) {own : String} {index : Nat} {y : MethodName} {bytes : ByteArray} {maxL : Nat} {r : Option FieldType} {ps : List FieldType} {rm : Room} {a : Addr} {argsL rest : List Value} {Qc : Option Value → Heap → List Loc → Prop} {W : Nat}
    (hown : s.vm.findClass own = some m.cls) (hn : y.name = "<init>") (w1 : (Jvm.Cond.methodLink own index y).before a0 Z = true) (w2 : (Jvm.Cond.instanceMethod y).before a0 Z = true) (w3 : (Jvm.Cond.initialized y.cls).before a0 Z = true) (w4 : (Jvm.Cond.code y bytes maxL none).before a0 Z = true) (hy : y.cls ≠ "java/lang/invoke/MethodHandle" ∧ y.cls ≠ "java/lang/invoke/VarHandle")
    (hM : OwnMet l Z y bytes maxL none [] rm (Value.ref a :: argsL).toArray h Qc) (eT : T.heap = h) (hml : Ls.size = c.maxLocals) (hlen : parseMethodDescriptor y.desc = some ⟨ps, r⟩) (hl : argsL.length = ps.length) (hf : rm.frames + 1 ≤ R.frames) (hW : (rest.map fun v => v.category).sum ≤ W) (hlo : W + (maxL + 11) + rm.locals ≤ R.locals) (hc : cells + rm.cells ≤ R.cells) (hs : slots + rm.slots ≤ R.slots)
    (hd : decode bc pc = .ok (.invokespecial index, 3)) (hp : pc + 3 = pc') (hst : st = argsL.reverse ++ Value.ref a :: rest)
    (kt : ∀ v T' L, Stand p l e R s m args below meth c T' (locs ++ L) (cells + rm.cells) (slots + rm.slots) → Qc v T'.heap L → Ends p.tables e below Fz (T'.setTop (mkF m pc' Ls (v.toList ++ rest)))) : Ends p.tables e below Fz (T.setTop (mkF m pc Ls st)) := by
  subst hp hst
  obtain ⟨v, vm₁, ⟨T', L', k', n'⟩, -, X', ⟨Lc, hQ, l', y', z'⟩, st⟩ := X.specialBack hx (y := y) hn hown (mvT hZ w1) (mvT hZ w2) (mvT hZ w4) hy (backOf (W := W) hM hZ w4 w3 hf hlo) (g := mkF m pc Ls (argsL.reverse ++ Value.ref a :: rest)) rfl hml (Steps.refl _) (a := a) (argsL := argsL) (rest := rest) (lenOf hlen hl) rfl (by show 2 * 0 + _ ≤ _; omega) (hb hby hd) (fun _ _ => ⟨rfl, eT, hc, hs⟩)
  dsimp only [Pt.U, Pt.locs, Pt.cells, Pt.slots] at X' l' y' z' st hQ
  subst l' y' z'
  exact Ends.tr st (kt v T' Lc X' hQ)
theorem own_virtual (X : Stand p l e R s m args below meth c T locs cells slots) (hx : p.tables.exec = Jvm.exec) (hby : c.code = bc) (hZ : Z.Warmed39 s.vm) {own Cn : String} {index : Nat} {y : MethodName} {bytes : ByteArray} {maxL : Nat} {rt r : Option FieldType} {ps : List FieldType} {rm : Room} {a : Addr} {argsL rest : List Value} {Qc : Option Value → Heap → List Loc → Prop} {W : Nat}
    (hown : s.vm.findClass own = some m.cls) (w1 : (Jvm.Cond.methodLink own index y).before a0 Z = true) (wd : (Jvm.Cond.declares y).before a0 Z = true) (ws : (Jvm.Cond.selects Cn y y).before a0 Z = true) (w2 : (Jvm.Cond.instanceMethod y).before a0 Z = true) (w3 : (Jvm.Cond.initialized y.cls).before a0 Z = true) (w4 : (Jvm.Cond.code y bytes maxL rt).before a0 Z = true) (hy : y.cls ≠ "java/lang/invoke/MethodHandle" ∧ y.cls ≠ "java/lang/invoke/VarHandle")
    (hM : OwnMet l Z y bytes maxL rt [] rm (Value.ref a :: argsL).toArray h Qc) (E : Exa Z h a Cn) (eT : T.heap = h) (hml : Ls.size = c.maxLocals) (hlen : parseMethodDescriptor y.desc = some ⟨ps, r⟩) (hl : argsL.length = ps.length) (hf : rm.frames + 1 ≤ R.frames) (hW : (rest.map fun v => v.category).sum ≤ W) (hlo : W + (maxL + 11) + rm.locals ≤ R.locals) (hc : cells + rm.cells ≤ R.cells) (hs : slots + rm.slots ≤ R.slots)
    (hd : decode bc pc = .ok (.invokevirtual index, 3)) (hp : pc + 3 = pc') (hst : st = argsL.reverse ++ Value.ref a :: rest)
    (kt : ∀ v T' L, Stand p l e R s m args below meth c T' (locs ++ L) (cells + rm.cells) (slots + rm.slots) → Qc v T'.heap L → Ends p.tables e below Fz (T'.setTop (mkF m pc' Ls (v.toList ++ rest)))) : Ends p.tables e below Fz (T.setTop (mkF m pc Ls st)) := by
  subst hp hst
  obtain ⟨cq, kq, qa, qb, qc⟩ := isOf hZ eT E
  obtain ⟨v, vm₁, ⟨T', L', k', n'⟩, -, X', ⟨Lc, hQ, l', y', z'⟩, st⟩ := X.virtualBack hx (y := y) (z := y) hown (mvT hZ w1) (mvT hZ wd) (notFace_of_selects (args := #[]) (mvT hZ ws)) (mvT hZ ws) (mvT hZ w2) hy (backOf (W := W) hM hZ w4 w3 hf hlo) qa qc (g := mkF m pc Ls (argsL.reverse ++ Value.ref a :: rest)) rfl hml (Steps.refl _) (argsL := argsL) (rest := rest) (lenOf hlen hl) rfl (by show 2 * 0 + _ ≤ _; omega) (hb hby hd) (fun _ _ => ⟨rfl, eT, hc, hs⟩)
  dsimp only [Pt.U, Pt.locs, Pt.cells, Pt.slots] at X' l' y' z' st hQ
  subst l' y' z'
  exact Ends.tr st (kt v T' Lc X' hQ)
theorem own_initO (X : Stand p l e R s m args below meth c T locs cells slots) (hx : p.tables.exec = Jvm.exec) (hby : c.code = bc) (hZ : Z.Warmed39 s.vm) {own : String} {index : Nat} {a : Addr}
    (hown : s.vm.findClass own = some m.cls) (w1 : (Jvm.Cond.methodLink own index Lib.objectInit).before a0 Z = true) (w2 : (Jvm.Cond.instanceMethod Lib.objectInit).before a0 Z = true) (w3 : (Jvm.Cond.code Lib.objectInit ⟨#[0xb1]⟩ 1 none).before a0 Z = true) (eT : T.heap = h) (hml : Ls.size = c.maxLocals) (hf : 1 ≤ R.frames) {W : Nat} (hW : (st.map fun v => v.category).sum ≤ W) (hlo : W + 12 ≤ R.locals)
    (hd : decode bc pc = .ok (.invokespecial index, 3)) (hp : pc + 3 = pc')
    (kt : ∀ T', Stand p l e R s m args below meth c T' locs cells slots → T'.heap = h → Ends p.tables e below Fz (T'.setTop (mkF m pc' Ls st))) : Ends p.tables e below Fz (T.setTop (mkF m pc Ls (.ref a :: st))) := by
  subst hp
  obtain ⟨T', X', e', st⟩ := initO X hx hZ hown w1 w2 w3 eT (g := mkF m pc Ls (.ref a :: st)) rfl hml rfl (hb hby hd) hf (W := W) (by show 2 * 0 + _ ≤ _; omega) hlo
  exact Ends.of st (kt T' X' e')
theorem own_getfield (X : Stand p l e R s m args below meth c T locs cells slots) (hx : p.tables.exec = Jvm.exec) (hby : c.code = bc) (hZ : Z.Warmed39 s.vm) {own R0 O n d host : String} {index : Nat} {a : Addr} {v : Value}
    (hown : s.vm.findClass own = some m.cls) (w : (Jvm.Cond.fieldLink own index R0 n d).before a0 Z = true ∨ (Jvm.Cond.fieldLinkNest own index R0 n d host).before a0 Z = true) (via : Via Z R0 O n d) (eT : T.heap = h) (F : Fld Z h a O n d v)
    (hd : decode bc pc = .ok (.getfield index, 3)) (hp : pc + 3 = pc')
    (kt : ∀ T', Stand p l e R s m args below meth c T' locs cells slots → T'.heap = h → Ends p.tables e below Fz (T'.setTop (mkF m pc' Ls (v :: st)))) : Ends p.tables e below Fz (T.setTop (mkF m pc Ls (.ref a :: st))) := by
  subst hp
  obtain ⟨T', X', e', st⟩ := getF X hx hZ hown w via eT F (g := mkF m pc Ls (.ref a :: st)) rfl rfl (hb hby hd)
  exact Ends.of st (kt T' X' e')
theorem own_getstatic (X : Stand p l e R s m args below meth c T locs cells slots) (hx : p.tables.exec = Jvm.exec) (hby : c.code = bc) (hZ : Z.Warmed39 s.vm) {own R0 O n d host : String} {index : Nat} {v : Value}
    (hown : s.vm.findClass own = some m.cls) (w : (Jvm.Cond.fieldLink own index R0 n d).before a0 Z = true ∨ (Jvm.Cond.fieldLinkNest own index R0 n d host).before a0 Z = true) (via : Via Z R0 O n d) (eT : T.heap = h) (F : Sta Z h O n d v)
    (hd : decode bc pc = .ok (.getstatic index, 3)) (hp : pc + 3 = pc')
    (kt : ∀ T', Stand p l e R s m args below meth c T' locs cells slots → T'.heap = h → Ends p.tables e below Fz (T'.setTop (mkF m pc' Ls (v :: st)))) : Ends p.tables e below Fz (T.setTop (mkF m pc Ls st)) := by
  subst hp
  obtain ⟨T', X', e', st⟩ := getS2 X hx hZ hown w via eT F (g := mkF m pc Ls st) rfl (hb hby hd)
  exact Ends.of st (kt T' X' e')
theorem own_putfield (X : Stand p l e R s m args below meth c T locs cells slots) (hx : p.tables.exec = Jvm.exec) (hby : c.code = bc) (hZ : Z.Warmed39 s.vm) {own R0 O n d host Cn : String} {index kk : Nat} {ty : FieldType} {a : Addr} {v old : Value}
    (hown : s.vm.findClass own = some m.cls) (w : (Jvm.Cond.fieldLink own index R0 n d).before a0 Z = true ∨ (Jvm.Cond.fieldLinkNest own index R0 n d host).before a0 Z = true) (via : Via Z R0 O n d) (eT : T.heap = h) (F : Fld Z h a O n d old) (E : Exa Z h a Cn)
    (L : (Jvm.Cond.lays Cn O n d).before a0 Z = true ∨ ((Jvm.Cond.laysFinal Cn O n d).before a0 Z = true ∧ own = O ∧ meth.name = "<init>")) (wi : (Jvm.Cond.instantiable Cn kk).before a0 Z = true) (hty : parseFieldDescriptor d = some ty) (hn : narrow ty v = v) (hf : fits ty v = true) (N : Fr n0 locs) (ga : n0 ≤ a)
    (hd : decode bc pc = .ok (.putfield index, 3)) (hp : pc + 3 = pc')
    (kt : ∀ T' h' L', Stand p l e R s m args below meth c T' L' cells slots → T'.heap = h' → Wr h h' a (Jvm.RoadKit.slotOf Z O n d) v → Fr n0 L' → Ends p.tables e below Fz (T'.setTop (mkF m pc' Ls st))) : Ends p.tables e below Fz (T.setTop (mkF m pc Ls (v :: .ref a :: st))) := by
  subst hp
  obtain ⟨T', h', X', e', W', st⟩ := putF X hx hZ hown w via eT F E L wi hty hn hf (g := mkF m pc Ls (v :: .ref a :: st)) rfl rfl (hb hby hd)
  exact Ends.of st (kt T' h' _ X' e' W' (Fr.snoc X' N ga))
theorem own_new (X : Stand p l e R s m args below meth c T locs cells slots) (hx : p.tables.exec = Jvm.exec) (hby : c.code = bc) (hZ : Z.Warmed39 s.vm) {own Cn : String} {index n : Nat}
    (hown : s.vm.findClass own = some m.cls) (w : (Jvm.Cond.classLink own index Cn).before a0 Z = true) (wi : (Jvm.Cond.instantiable Cn n).before a0 Z = true) (wz : (Jvm.Cond.initialized Cn).before a0 Z = true) (eT : T.heap = h) (hc : cells + 1 ≤ R.cells) (hl : slots + n ≤ R.slots)
    (hd : decode bc pc = .ok (.new index, 3)) (hp : pc + 3 = pc')
    (kt : ∀ T' h' b, Stand p l e R s m args below meth c T' locs (cells + 1) (slots + n) → T'.heap = h' → b = h.size → Ext h h' → Exa Z h' b Cn → (∀ {O nm d : String} {ty : FieldType}, Laid Z a0 Cn O nm d → parseFieldDescriptor d = some ty → Fld Z h' b O nm d (defaultValue ty)) → Ends p.tables e below Fz (T'.setTop (mkF m pc' Ls (.ref b :: st)))) : Ends p.tables e below Fz (T.setTop (mkF m pc Ls st)) := by
  subst hp
  obtain ⟨T', h', X', e', E', A', D', -, st⟩ := newO X hx hZ hown w wi wz eT (g := mkF m pc Ls st) rfl (hb hby hd) hc hl
  exact Ends.of st (kt T' h' _ X' e' rfl E' A' D')
theorem own_newarray (X : Stand p l e R s m args below meth c T locs cells slots) (hx : p.tables.exec = Jvm.exec) (hby : c.code = bc) (hZ : Z.Warmed39 s.vm) {aty : ArrayType} {n : Int32}
    (w : (Jvm.Cond.arrayClass (newarray.typeOf aty)).before a0 Z = true) (eT : T.heap = h) (hn : ¬ n < 0) (cap : Nat) (hcap : n.toNatClampNeg ≤ cap) (hb8 : cap * 8 ≤ 536870912) (hc : cells + 1 ≤ R.cells) (hl : slots + cap ≤ R.slots)
    (ty : FieldType) (hty : newarray.typeOf aty = ty) (vs : List Value) (hvs : List.replicate n.toNatClampNeg (defaultValue ty) = vs)
    (hd : decode bc pc = .ok (.newarray aty, 2)) (hp : pc + 2 = pc')
    (kt : ∀ T' h' b k, Stand p l e R s m args below meth c T' locs (cells + 1) (slots + cap) → T'.heap = h' → b = h.size → Ext h h' → Arv Z h' b k ty n vs (defaultValue ty) → Ends p.tables e below Fz (T'.setTop (mkF m pc' Ls (.ref b :: st)))) : Ends p.tables e below Fz (T.setTop (mkF m pc Ls (.int n :: st))) := by
  subst hp hty hvs
  obtain ⟨T', h', k', X', e', E', A', st⟩ := newP X hx hZ w eT (g := mkF m pc Ls (.int n :: st)) rfl (hb hby hd) rfl hn hcap hb8 hc hl
  exact Ends.of st (kt T' h' _ k' X' e' rfl E' ((Arv.new A' hn).pad (pad_rep [] _ _)))
theorem own_arraylength (X : Stand p l e R s m args below meth c T locs cells slots) (hx : p.tables.exec = Jvm.exec) (hby : c.code = bc) (hZ : Z.Warmed39 s.vm) {ty : FieldType} {a : Addr} {k : ClassId} {n : Int32} {vs : List Value} {dv : Value}
    (eT : T.heap = h) (V : Arv Z h a k ty n vs dv) (hd : decode bc pc = .ok (.arraylength, 1)) (hp : pc + 1 = pc')
    (kt : Ends p.tables e below Fz (T.setTop (mkF m pc' Ls (.int n :: st)))) : Ends p.tables e below Fz (T.setTop (mkF m pc Ls (.ref a :: st))) := by
  subst hp
  obtain ⟨cl, A, -, Sz, Nn, -, -⟩ := V
  exact Ends.of (fun _ q => X.arraylength hx (by rw [eT]; exact A.1) (State.isArrayOf_alike hZ.alike A.2.1) (g := mkF m pc Ls (.ref a :: st)) rfl rfl (hb hby hd) _ (by rw [len_of Sz Nn]; exact q)) kt
theorem own_baload (X : Stand p l e R s m args below meth c T locs cells slots) (hx : p.tables.exec = Jvm.exec) (hby : c.code = bc) (hZ : Z.Warmed39 s.vm) {a : Addr} {k : ClassId} {n j : Int32} {vs : List Value} {dv : Value} (v : Int32)
    (eT : T.heap = h) (V : Arv Z h a k .byte n vs dv) (hj : ¬ j < 0 ∧ j < n) (hv : vs.getD j.toNatClampNeg dv = .int v) (hd : decode bc pc = .ok (.baload, 1)) (hp : pc + 1 = pc')
    (kt : Ends p.tables e below Fz (T.setTop (mkF m pc' Ls (.int v :: st)))) : Ends p.tables e below Fz (T.setTop (mkF m pc Ls (.int j :: .ref a :: st))) := by
  subst hp
  obtain ⟨cl, A, -, Sz, Nn, H, -⟩ := V
  exact Ends.of (fun _ q => X.baloadBytes hx (j := j) (v := .int v) (by rw [eT]; exact A.1) (State.isArrayOf_alike hZ.alike A.2.1) A.2.2 (inb_of Sz hj) (H.at (inb_of Sz hj) hv) (g := mkF m pc Ls (.int j :: .ref a :: st)) rfl rfl (hb hby hd) _ q) kt
theorem own_bastore (X : Stand p l e R s m args below meth c T locs cells slots) (hx : p.tables.exec = Jvm.exec) (hby : c.code = bc) (hZ : Z.Warmed39 s.vm) {a : Addr} {k : ClassId} {n j : Int32} {vs : List Value} {dv : Value} {x : Int32} (v' : Int32) (hv' : (nar .byte x) = v')
    (eT : T.heap = h) (V : Arv Z h a k .byte n vs dv) (hj : ¬ j < 0 ∧ j < n) (i : Nat) (hi : j.toNatClampNeg = i) (hil : i < vs.length) (vs' : List Value) (hvs : vs.set i (.int v') = vs') (hfit : fits .byte (.int v') = true) (N : Fr n0 locs) (ga : n0 ≤ a) (hd : decode bc pc = .ok (.bastore, 1)) (hp : pc + 1 = pc')
    (kt : ∀ T' h' L', Stand p l e R s m args below meth c T' L' cells slots → T'.heap = h' → Wr h h' a j.toNatClampNeg (.int v') → Arv Z h' a k .byte n vs' dv → Fr n0 L' → Ends p.tables e below Fz (T'.setTop (mkF m pc' Ls st))) : Ends p.tables e below Fz (T.setTop (mkF m pc Ls (.int x :: .int j :: .ref a :: st))) := by
  subst hp hvs hv'
  obtain ⟨cl, A, q1, Sz, Nn, H, G⟩ := V
  obtain ⟨T', h', X', e', W', st⟩ := stB X hx hZ eT A (j := j) (inb_of Sz hj) (g := mkF m pc Ls (.int x :: .int j :: .ref a :: st)) rfl rfl (hb hby hd)
  exact Ends.of st (kt T' h' _ X' e' W' (Arv.set A q1 Sz Nn H G hfit W' i hi hil) (Fr.snoc X' N ga))
theorem own_checkcast (X : Stand p l e R s m args below meth c T locs cells slots) (hx : p.tables.exec = Jvm.exec) (hby : c.code = bc) (hZ : Z.Warmed39 s.vm) {own K : String} {index : Nat} {a : Addr}
    (hown : s.vm.findClass own = some m.cls) (w : (Jvm.Cond.classLink own index K).before a0 Z = true) (eT : T.heap = h) (F : Ins Z h a K true) (hd : decode bc pc = .ok (.checkcast index, 3)) (hp : pc + 3 = pc')
    (kt : ∀ T', Stand p l e R s m args below meth c T' locs cells slots → T'.heap = h → Ends p.tables e below Fz (T'.setTop (mkF m pc' Ls (.ref a :: st)))) : Ends p.tables e below Fz (T.setTop (mkF m pc Ls (.ref a :: st))) := by
  subst hp
  obtain ⟨T', X', e', st⟩ := castY X hx hZ hown w eT F (g := mkF m pc Ls (.ref a :: st)) rfl rfl (hb hby hd)
  exact Ends.of st (kt T' X' e')
theorem own_ldc2J (X : Stand p l e R s m args below meth c T locs cells slots) (hx : p.tables.exec = Jvm.exec) (hby : c.code = bc) (hZ : Z.Warmed39 s.vm) {own : String} {index : Nat} {v : Int64}
    (hown : s.vm.findClass own = some m.cls) (w : (Jvm.Cond.constantLong own index v).before a0 Z = true) (hd : decode bc pc = .ok (.ldc2_w index, 3)) (hp : pc + 3 = pc')
    (kt : Ends p.tables e below Fz (T.setTop (mkF m pc' Ls (.long v :: st)))) : Ends p.tables e below Fz (T.setTop (mkF m pc Ls st)) := by
  subst hp; exact Ends.of (X.ldc2Long hx hown (mvT hZ w) (g := mkF m pc Ls st) rfl (hb hby hd)) kt
theorem own_newarrayE (X : Stand p l e R s m args below meth c T locs cells slots) (hx : p.tables.exec = Jvm.exec) (hby : c.code = bc) (hZ : Z.Warmed39 s.vm) {aty : ArrayType} {n : Int32}
    (w : (Jvm.Cond.arrayClass (newarray.typeOf aty)).before a0 Z = true) (eT : T.heap = h) (hn : ¬ n < 0) (cap : Nat) (hcap : n.toNatClampNeg ≤ cap) (hb8 : cap * 8 ≤ 536870912) (hc : cells + 1 ≤ R.cells) (hl : slots + cap ≤ R.slots) (ad : String) (had : "[" ++ (newarray.typeOf aty).toString = ad)
    (ty : FieldType) (hty : newarray.typeOf aty = ty) (vs : List Value) (hvs : List.replicate n.toNatClampNeg (defaultValue ty) = vs)
    (hd : decode bc pc = .ok (.newarray aty, 2)) (hp : pc + 2 = pc')
    (kt : ∀ T' h' b k, Stand p l e R s m args below meth c T' locs (cells + 1) (slots + cap) → T'.heap = h' → b = h.size → Ext h h' → Arv Z h' b k ty n vs (defaultValue ty) → Exa Z h' b ad → Ends p.tables e below Fz (T'.setTop (mkF m pc' Ls (.ref b :: st)))) : Ends p.tables e below Fz (T.setTop (mkF m pc Ls (.int n :: st))) := by
  subst hp hty hvs
  obtain ⟨T', h', k', X', e', E', A', Ex', st⟩ := newPE X hx hZ w eT (g := mkF m pc Ls (.int n :: st)) rfl (hb hby hd) rfl hn hcap hb8 hc hl had
  exact Ends.of st (kt T' h' _ k' X' e' rfl E' ((Arv.new A' hn).pad (pad_rep [] _ _)) Ex')
theorem own_clone (X : Stand p l e R s m args below meth c T locs cells slots) (hx : p.tables.exec = Jvm.exec) (hby : c.code = bc) (hZ : Z.Warmed39 s.vm) {own ad : String} {index : Nat} {ty : FieldType} {a : Addr} {k : ClassId} {n : Int32} {vs : List Value} {dv : Value}
    (hown : s.vm.findClass own = some m.cls) (w1 : (Jvm.Cond.methodLink own index ⟨ad, "clone", "()Ljava/lang/Object;"⟩).before a0 Z = true) (w2 : (Jvm.Cond.sameMethod ad "java/lang/Object" "clone" "()Ljava/lang/Object;").before a0 Z = true) (w3 : (Jvm.Cond.native ⟨"java/lang/Object", "clone", "()Ljava/lang/Object;"⟩).before a0 Z = true)
    (w4 : (Jvm.Cond.instanceMethod ⟨"java/lang/Object", "clone", "()Ljava/lang/Object;"⟩).before a0 Z = true) (w5 : (Jvm.Cond.selects ad ⟨ad, "clone", "()Ljava/lang/Object;"⟩ ⟨"java/lang/Object", "clone", "()Ljava/lang/Object;"⟩).before a0 Z = true) (w6 : (Jvm.Cond.castable ad "java/lang/Cloneable").before a0 Z = true)
    (eT : T.heap = h) (V : Arv Z h a k ty n vs dv) (E : Exa Z h a ad) (hml : Ls.size = c.maxLocals) (hf : 1 ≤ R.frames) {W : Nat} (cap : Nat) (hW : (st.map fun v => v.category).sum ≤ W) (hlo : W + 14 ≤ R.locals) (hcap : n.toNatClampNeg ≤ cap) (hc : cells + 1 ≤ R.cells) (hl : slots + cap ≤ R.slots)
    (hd : decode bc pc = .ok (.invokevirtual index, 3)) (hp : pc + 3 = pc')
    (kt : ∀ T' h' b, Stand p l e R s m args below meth c T' locs (cells + 1) (slots + cap) → T'.heap = h' → b = h.size → Ext h h' → Arv Z h' b k ty n vs dv → Exa Z h' b ad → Ends p.tables e below Fz (T'.setTop (mkF m pc' Ls (.ref b :: st)))) : Ends p.tables e below Fz (T.setTop (mkF m pc Ls (.ref a :: st))) := by
  subst hp
  obtain ⟨T', h', X', e', ex, V', E', st⟩ := cloneH X hx hZ hown w1 w2 w3 w4 w5 w6 eT V.arh E (g := mkF m pc Ls (.ref a :: st)) rfl hml rfl (hb hby hd) hf (W := W) (by show 2 * 0 + _ ≤ _; omega) hlo hcap hc hl
  exact Ends.of st (kt T' h' _ X' e' rfl ex V' E')
theorem own_ge {b : Addr} (O : Old Z n0 h) (g : b = h.size) : n0 ≤ b := by rw [g]; exact O.1 ▸ O.2.1
theorem own_lt {x b : Addr} (hx : x < h.size) (g : b = h.size) : x ≠ b := by rw [g]; exact Nat.ne_of_lt hx
end OwnH
section OwnW
variable {p : Program} {l : Launch} {e : Env} {R : Room} {s : State} {m : MethodId} {args : Array Value} {below : List Frame} {meth : Method} {c : Code} {T : State} {locs : List Loc} {cells slots : Nat}
variable {Fz : Outcome → State → Prop} {bc : ByteArray} {pc pc' : Nat} {Ls Ls' : Array Slot} {st : List Value}
variable {Z : State} {a0 : Array Value} {h h0 : Heap} {n0 : Nat} {vm0 : Vm} {k0 : Nat} {Q : Option Value → Heap → List Loc → Prop} {C S : Nat}
def OwnFinW (s : State) (Q : Option Value → Heap → List Loc → Prop) (C S : Nat) (o : Outcome) (s₂ : State) : Prop := ∃ v L, o = .returned v ∧ Q v s₂.heap L ∧ ReturnedEndW s o s₂ L C S
abbrev OwnMetW (l : Launch) (Z : State) (y : MethodName) (bytes : ByteArray) (maxL : Nat) (rt : Option FieldType) (ws : List Jvm.Cond) (rm : Room) (as' : Array Value) (h0 : Heap) (Qc : Option Value → Heap → List Loc → Prop) : Prop :=
  MetFree l y (head1 (Jvm.Cond.code y bytes maxL rt :: ws) rm) (fun a U => a = as' ∧ Z.Warmed39 U.vm ∧ U.heap = h0) (fun _ _ _ _ _ => True) (fun _ U o U' => ∃ v L, o = .returned v ∧ Qc v U'.heap L ∧ ReturnedEndW U o U' L rm.cells rm.slots)
theorem own_bodyW {y : MethodName} {bytes : ByteArray} {maxL : Nat} {rt : Option FieldType} {ws : List Jvm.Cond} {rm : Room} {as' : Array Value} {Qc : Option Value → Heap → List Loc → Prop} {Ls0 : Array Slot} (hpl : plainFor y = true) (hef : ∀ m : MethodId, entryFrame m as' maxL = mkF m 0 Ls0 [])
    (body : ∀ (p : Program) (e : Env) (s : State) (m : MethodId) (below : List Frame) (meth : Method) (c : Code) (s₁ : State), Stand p l e rm (s.setVm s.vm) m as' below meth c s₁ [] 0 0 → p.tables.exec = Jvm.exec → c.code = bytes → c.maxLocals = maxL → (s.setVm s.vm).vm.findClass y.cls = some m.cls → meth.name = y.name → meth.sig.returnType = rt → meth.locks = false → Z.Warmed39 (s.setVm s.vm).vm → s₁.heap = h0 → s.heap = h0 → s.Since s.vm h0.size → Ends p.tables e below (OwnFinW s Qc rm.cells rm.slots) (s₁.setTop (mkF m 0 Ls0 []))) :
    OwnMetW l Z y bytes maxL rt ws rm as' h0 Qc := by
  refine MetFree.of_bodySF hpl hisR ?_
  intro p e s m args below meth c s₁ Bd hml0 hP hK
  obtain ⟨rfl, hZ, hh⟩ := hP
  have e0 : s₁.heap = h0 := by rw [← hh, Bd.state]; rfl
  rw [hef]
  exact body p e s m below meth c s₁ (Stand.of_body Bd) Bd.exec Bd.bytes hml0 (findClass_of_methodNamed Bd.named) (name_of_methodNamed Bd.named Bd.method).1 Bd.returns Bd.notSynchronized hZ e0 hh ((State.WarmedH.refl s).since _)
theorem own_retW (X : Stand p l e R (s.setVm vm0) m args below meth c T locs cells slots) (hx : p.tables.exec = Jvm.exec) (hby : c.code = bc) {v : Value} {t : FieldType} {i : Instr} (hret : meth.sig.returnType = some t) (hk : meth.locks = false) (hd : decode bc pc = .ok (i, 1)) (v' : Value) (hn : narrow t v = v')
    (hi : (i = .ireturn ∧ (t = .int ∨ t = .boolean ∨ t = .byte ∨ t = .char ∨ t = .short) ∧ ∃ z, v = .int z) ∨ (i = .lreturn ∧ t = .long ∧ ∃ z, v = .long z) ∨ (i = .areturn ∧ t.isReference = true ∧ v.isRef = true))
    (hS : s.Since vm0 k0) (hk0 : k0 ≤ T.heap.size) (hC : cells ≤ C) (hSl : slots ≤ S) (q : Q (some v') T.heap locs) : Ends p.tables e below (OwnFinW s Q C S) (T.setTop (mkF m pc Ls (v :: st))) := by
  obtain ⟨fs, hr, hrun, hended, hE⟩ := X.leaveW hS hk0 (v := some v') (fun h => by rw [hret] at h; cases h) hk
  refine ⟨_, _, ?_, hrun, hended, _, _, rfl, q, hE.1, hE.2.1, hE.2.2.1, hE.2.2.2.mono hC hSl⟩
  have hm' : T.vm.method? m = some meth := X.method'
  show Steps p.tables e below (T.setTop { method := m, pc := pc, locals := Ls, stack := v :: st, locked := none }) _
  have hd' := hb hby hd
  rcases hi with ⟨rfl, ht, z, rfl⟩ | ⟨rfl, rfl, z, rfl⟩ | ⟨rfl, ht, hv⟩
  · rcases ht with rfl | rfl | rfl | rfl | rfl <;> (jvm_step X.here [X.here.top, hx, hd', hm', hret, hn]; first | (intro acts; rw [hr _ acts rfl rfl rfl]) | rw [hr _ _ rfl rfl rfl]) <;> exact Steps.refl _
  · have hn2 : Value.long z = v' := hn
    subst hn2
    jvm_step X.here [X.here.top, hx, hd', hm', hret, hn]
    first | (intro acts; rw [hr _ acts rfl rfl rfl]) | rw [hr _ _ rfl rfl rfl]
    exact Steps.refl _
  · have hn2 : v = v' := by rw [← hn]; rcases ref_cases hv with rfl | ⟨z, rfl⟩ <;> cases t <;> rfl
    subst hn2
    jvm_step X.here [X.here.top, hx, hd', hm', hret, hn, ht, hv]
    first | (intro acts; rw [hr _ acts rfl rfl rfl]) | rw [hr _ _ rfl rfl rfl]
    exact Steps.refl _
theorem own_retVW (X : Stand p l e R (s.setVm vm0) m args below meth c T locs cells slots) (hx : p.tables.exec = Jvm.exec) (hby : c.code = bc) (hret : meth.sig.returnType = none) (hk : meth.locks = false) (hd : decode bc pc = .ok (.return_, 1)) (hS : s.Since vm0 k0) (hk0 : k0 ≤ T.heap.size) (hC : cells ≤ C) (hSl : slots ≤ S) (q : Q none T.heap locs) : Ends p.tables e below (OwnFinW s Q C S) (T.setTop (mkF m pc Ls [])) := by
  obtain ⟨fs, hr, hrun, hended, hE⟩ := X.leaveW hS hk0 (v := none) (fun _ => rfl) hk
  exact ⟨_, _, X.returnOut hx hret (hb hby hd) hr, hrun, hended, _, _, rfl, q, hE.1, hE.2.1, hE.2.2.1, hE.2.2.2.mono hC hSl⟩
/-- ldc of a String constant, the object unread -/
theorem own_ldcS (X : Stand p l e R (s.setVm vm0) m args below meth c T locs cells slots) (hx : p.tables.exec = Jvm.exec) (hby : c.code = bc) (hZ : Z.Warmed39 (s.setVm vm0).vm) {own text : String} {index : Nat} (hown : (s.setVm vm0).vm.findClass own = some m.cls) (w : (Jvm.Cond.stringLink own index text).before a0 Z = true) (wS : ∀ a ∈ Bundle.stringAtoms, a.before a0 Z = true)
    (eT : T.heap = h) (hS : s.Since vm0 k0) (hk : k0 ≤ h.size) (n : Nat) (hn : 4 * text.toList.length ≤ n) (hbig : n ≤ 536870912) (hc : cells + 2 ≤ R.cells) (hl : slots + (n + 4) ≤ R.slots) (hd : decode bc pc = .ok (.ldc index, 2)) (hp : pc + 2 = pc')
    (kt : ∀ a T' h' k1, Stand p l e R (s.setVm T'.vm) m args below meth c T' locs (cells + 2) (slots + (n + 4)) → T'.heap = h' → Ext h h' → s.Since T'.vm k1 → k1 ≤ h'.size → Z.Warmed39 (s.setVm T'.vm).vm → (s.setVm T'.vm).vm.findClass own = some m.cls → Ends p.tables e below Fz (T'.setTop (mkF m pc' Ls (.ref a :: st)))) : Ends p.tables e below Fz (T.setTop (mkF m pc Ls st)) := by
  subst hp
  obtain ⟨a, T', h', k1, X', e', E', S', hk', hZ', ho', st⟩ := ldcS X hx hZ hown w wS eT hS hk (g := mkF m pc Ls st) rfl (hb hby hd) hn hbig hc hl
  exact Ends.of st (kt a T' h' k1 X' e' E' S' hk' hZ' ho')
theorem own_specialS (X : Stand p l e R (s.setVm vm0) m args below meth c T locs cells slots) (hx : p.tables.exec = Jvm.exec) (hby : c.code = bc) (hZ : Z.Warmed39 (s.setVm vm0).vm) {own : String} {index : Nat} {y : MethodName} {bytes : ByteArray} {maxL : Nat} {r : Option FieldType} {ps : List FieldType} {rm : Room} {a : Addr} {argsL rest : List Value} {Qc : Option Value → Heap → List Loc → Prop} {W : Nat}
    (hown : (s.setVm vm0).vm.findClass own = some m.cls) (hn : y.name = "<init>") (w1 : (Jvm.Cond.methodLink own index y).before a0 Z = true) (w2 : (Jvm.Cond.instanceMethod y).before a0 Z = true) (w3 : (Jvm.Cond.initialized y.cls).before a0 Z = true) (w4 : (Jvm.Cond.code y bytes maxL none).before a0 Z = true) (hy : y.cls ≠ "java/lang/invoke/MethodHandle" ∧ y.cls ≠ "java/lang/invoke/VarHandle")
    (hM : OwnMetW l Z y bytes maxL none [] rm (Value.ref a :: argsL).toArray h Qc) (eT : T.heap = h) (hS : s.Since vm0 k0) (hk : k0 ≤ h.size) (hml : Ls.size = c.maxLocals) (hlen : parseMethodDescriptor y.desc = some ⟨ps, r⟩) (hl : argsL.length = ps.length) (hf : rm.frames + 1 ≤ R.frames) (hW : (rest.map fun v => v.category).sum ≤ W) (hlo : W + (maxL + 11) + rm.locals ≤ R.locals) (hc : cells + rm.cells ≤ R.cells) (hs : slots + rm.slots ≤ R.slots)
    (hd : decode bc pc = .ok (.invokespecial index, 3)) (hp : pc + 3 = pc') (hst : st = argsL.reverse ++ Value.ref a :: rest)
    (kt : ∀ v T' L, Stand p l e R (s.setVm T'.vm) m args below meth c T' (locs ++ L) (cells + rm.cells) (slots + rm.slots) → s.Since T'.vm T'.heap.size → Z.Warmed39 (s.setVm T'.vm).vm → (s.setVm T'.vm).vm.findClass own = some m.cls → Qc v T'.heap L → Ends p.tables e below Fz (T'.setTop (mkF m pc' Ls (v.toList ++ rest)))) : Ends p.tables e below Fz (T.setTop (mkF m pc Ls st)) := by
  subst hp hst
  obtain ⟨v, vm₁, ⟨T', L', k', n'⟩, -, X', S', g', ⟨Lc, hQ, l', y', z'⟩, st⟩ := X.specialBackS hx (y := y) hn hown (mvT hZ w1) (mvT hZ w2) (mvT hZ w4) hy (backOfS (W := W) hM hZ w4 w3 hf hlo) (g := mkF m pc Ls (argsL.reverse ++ Value.ref a :: rest)) rfl hml (Steps.refl _) (a := a) (argsL := argsL) (rest := rest) (lenOf hlen hl) rfl (by show 2 * 0 + _ ≤ _; omega) (hb hby hd) (fun _ _ => ⟨rfl, eT, hc, hs⟩)
  dsimp only [Pt.U, Pt.locs, Pt.cells, Pt.slots] at X' S' g' l' y' z' st hQ
  subst l' y' z'
  obtain ⟨X2, S2, Z2, o2⟩ := rebS hS (eT ▸ hk) X' S' g' hZ hown
  exact Ends.tr st (kt v T' Lc X2 S2 Z2 o2 hQ)
end OwnW

def OwnG (Z : State) (z : Int32) (aE : Addr) : Prop := Sta Z Z.heap "java/lang/String" "COMPACT_STRINGS" "Z" (.int z) ∧ (¬ z = 0) ∧ Sta Z Z.heap "java/util/Optional" "EMPTY" "Ljava/util/Optional;" (.ref aE) ∧ Exa Z Z.heap aE "java/util/Optional" ∧ Fld Z Z.heap aE "java/util/Optional" "value" "Ljava/lang/Object;" .null
theorem own_mask (x : Int32) : 0 ≤ (x &&& (255 : Int32)).toInt ∧ (x &&& (255 : Int32)).toInt ≤ 255 := by have k1 := c_mask x (255 : Int32) 8 (by decide) (by decide); omega
theorem own_mc (x : Int32) : ((x &&& (255 : Int32)).toUInt32.toUInt16.toUInt32.toInt32).toInt ≤ 255 := by rw [i2c_mask]; exact (own_mask x).2
theorem own_narb (x : Int32) : nar .byte x.toInt8.toInt32 = x.toInt8.toInt32 := Value.int.inj (Jvm.Free.XT.narrow_b x)
theorem own_satoms {Z : State} {a0 : Array Value} (hw : ∀ d ∈ tables_1, d.before a0 Z = true) : ∀ d ∈ Bundle.stringAtoms, d.before a0 Z = true := fun d hd => hw d ((by decide +kernel : ∀ d ∈ Bundle.stringAtoms, d ∈ tables_1) d hd)
theorem own_k4 (x : Int32) : x &&& (3 : Int32) = 0 ∨ x &&& (3 : Int32) = 1 ∨ x &&& (3 : Int32) = 2 ∨ x &&& (3 : Int32) = 3 := by
  have k1 := c_mask x (3 : Int32) 2 (by decide) (by decide)
  have h : (x &&& (3 : Int32)).toInt = 0 ∨ (x &&& (3 : Int32)).toInt = 1 ∨ (x &&& (3 : Int32)).toInt = 2 ∨ (x &&& (3 : Int32)).toInt = 3 := by omega
  rcases h with h | h | h | h
  · exact Or.inl (Int32.toInt_inj.mp h)
  · exact Or.inr (Or.inl (Int32.toInt_inj.mp h))
  · exact Or.inr (Or.inr (Or.inl (Int32.toInt_inj.mp h)))
  · exact Or.inr (Or.inr (Or.inr (Int32.toInt_inj.mp h)))
theorem own_len {x : Int64} : 0 ≤ (x &&& (9223372036854775807 : Int64)).toInt := by have k1 := c_maskL x (9223372036854775807 : Int64) 63 (by decide) (by decide); omega
theorem tw_0 : (Jvm.Cond.arrayClass Jvm.ClassFile.FieldType.byte) ∈ tables_1 := List.mem_of_getElem? (i := 0) rfl
theorem tw_1 : (Jvm.Cond.methodLink "com/example/lyrebird/lyrebird/content/ContentBytesPinLaw" (32 : Nat) ({ cls := "com/example/lyrebird/lyrebird/content/Content", name := "inline", desc := "([B[B)Lcom/example/lyrebird/lyrebird/content/Content;" } : Jvm.MethodName)) ∈ tables_1 := List.mem_of_getElem? (i := 1) rfl
theorem tw_2 : (Jvm.Cond.static ({ cls := "com/example/lyrebird/lyrebird/content/Content", name := "inline", desc := "([B[B)Lcom/example/lyrebird/lyrebird/content/Content;" } : Jvm.MethodName)) ∈ tables_1 := List.mem_of_getElem? (i := 2) rfl
theorem tw_3 : (Jvm.Cond.initialized "com/example/lyrebird/lyrebird/content/Content") ∈ tables_1 := List.mem_of_getElem? (i := 3) rfl
theorem tw_4 : (Jvm.Cond.code ({ cls := "com/example/lyrebird/lyrebird/content/Content", name := "inline", desc := "([B[B)Lcom/example/lyrebird/lyrebird/content/Content;" } : Jvm.MethodName) prog_2_method_3_code (2 : Nat) (Option.some (Jvm.ClassFile.FieldType.object "com/example/lyrebird/lyrebird/content/Content"))) ∈ tables_1 := List.mem_of_getElem? (i := 4) rfl
theorem tw_5 : (Jvm.Cond.classLink "com/example/lyrebird/lyrebird/content/Content" (12 : Nat) "com/example/lyrebird/lyrebird/content/Content") ∈ tables_1 := List.mem_of_getElem? (i := 5) rfl
theorem tw_6 : (Jvm.Cond.instantiable "com/example/lyrebird/lyrebird/content/Content" (4 : Nat)) ∈ tables_1 := List.mem_of_getElem? (i := 6) rfl
theorem tw_7 : (Jvm.Cond.methodLink "com/example/lyrebird/lyrebird/content/Content" (11 : Nat) ({ cls := "com/example/lyrebird/lyrebird/content/Content", name := "<init>", desc := "(Ljava/lang/String;[BJ[B)V" } : Jvm.MethodName)) ∈ tables_1 := List.mem_of_getElem? (i := 7) rfl
theorem tw_8 : (Jvm.Cond.instanceMethod ({ cls := "com/example/lyrebird/lyrebird/content/Content", name := "<init>", desc := "(Ljava/lang/String;[BJ[B)V" } : Jvm.MethodName)) ∈ tables_1 := List.mem_of_getElem? (i := 8) rfl
theorem tw_9 : (Jvm.Cond.code ({ cls := "com/example/lyrebird/lyrebird/content/Content", name := "<init>", desc := "(Ljava/lang/String;[BJ[B)V" } : Jvm.MethodName) prog_2_method_2_code (6 : Nat) (Option.none : Option Jvm.ClassFile.FieldType)) ∈ tables_1 := List.mem_of_getElem? (i := 9) rfl
theorem tw_10 : (Jvm.Cond.methodLink "com/example/lyrebird/lyrebird/content/Content" (17 : Nat) ({ cls := "java/lang/Object", name := "<init>", desc := "()V" } : Jvm.MethodName)) ∈ tables_1 := List.mem_of_getElem? (i := 10) rfl
theorem tw_11 : (Jvm.Cond.instanceMethod ({ cls := "java/lang/Object", name := "<init>", desc := "()V" } : Jvm.MethodName)) ∈ tables_1 := List.mem_of_getElem? (i := 11) rfl
theorem tw_12 : (Jvm.Cond.code ({ cls := "java/lang/Object", name := "<init>", desc := "()V" } : Jvm.MethodName) object_method_1_code (1 : Nat) (Option.none : Option Jvm.ClassFile.FieldType)) ∈ tables_1 := List.mem_of_getElem? (i := 12) rfl
theorem tw_13 : (Jvm.Cond.fieldLink "com/example/lyrebird/lyrebird/content/Content" (34 : Nat) "com/example/lyrebird/lyrebird/content/Content" "file" "Ljava/lang/String;") ∈ tables_1 := List.mem_of_getElem? (i := 13) rfl
theorem tw_14 : (Jvm.Cond.laysFinal "com/example/lyrebird/lyrebird/content/Content" "com/example/lyrebird/lyrebird/content/Content" "file" "Ljava/lang/String;") ∈ tables_1 := List.mem_of_getElem? (i := 14) rfl
theorem tw_15 : (Jvm.Cond.methodLink "com/example/lyrebird/lyrebird/content/Content" (38 : Nat) ({ cls := "[B", name := "clone", desc := "()Ljava/lang/Object;" } : Jvm.MethodName)) ∈ tables_1 := List.mem_of_getElem? (i := 15) rfl
theorem tw_16 : (Jvm.Cond.sameMethod "[B" "java/lang/Object" "clone" "()Ljava/lang/Object;") ∈ tables_1 := List.mem_of_getElem? (i := 16) rfl
theorem tw_18 : (Jvm.Cond.instanceMethod ({ cls := "java/lang/Object", name := "clone", desc := "()Ljava/lang/Object;" } : Jvm.MethodName)) ∈ tables_1 := List.mem_of_getElem? (i := 18) rfl
theorem tw_19 : (Jvm.Cond.selects "[B" ({ cls := "[B", name := "clone", desc := "()Ljava/lang/Object;" } : Jvm.MethodName) ({ cls := "java/lang/Object", name := "clone", desc := "()Ljava/lang/Object;" } : Jvm.MethodName)) ∈ tables_1 := List.mem_of_getElem? (i := 19) rfl
theorem tw_20 : (Jvm.Cond.native ({ cls := "java/lang/Object", name := "clone", desc := "()Ljava/lang/Object;" } : Jvm.MethodName)) ∈ tables_1 := List.mem_of_getElem? (i := 20) rfl
theorem tw_21 : (Jvm.Cond.castable "[B" "java/lang/Cloneable") ∈ tables_1 := List.mem_of_getElem? (i := 21) rfl
theorem tw_22 : (Jvm.Cond.classLink "com/example/lyrebird/lyrebird/content/Content" (39 : Nat) "[B") ∈ tables_1 := List.mem_of_getElem? (i := 22) rfl
theorem tw_24 : (Jvm.Cond.fieldLink "com/example/lyrebird/lyrebird/content/Content" (44 : Nat) "com/example/lyrebird/lyrebird/content/Content" "bytes" "[B") ∈ tables_1 := List.mem_of_getElem? (i := 24) rfl
theorem tw_25 : (Jvm.Cond.laysFinal "com/example/lyrebird/lyrebird/content/Content" "com/example/lyrebird/lyrebird/content/Content" "bytes" "[B") ∈ tables_1 := List.mem_of_getElem? (i := 25) rfl
theorem tw_26 : (Jvm.Cond.fieldLink "com/example/lyrebird/lyrebird/content/Content" (47 : Nat) "com/example/lyrebird/lyrebird/content/Content" "length" "J") ∈ tables_1 := List.mem_of_getElem? (i := 26) rfl
theorem tw_27 : (Jvm.Cond.laysFinal "com/example/lyrebird/lyrebird/content/Content" "com/example/lyrebird/lyrebird/content/Content" "length" "J") ∈ tables_1 := List.mem_of_getElem? (i := 27) rfl
theorem tw_28 : (Jvm.Cond.fieldLink "com/example/lyrebird/lyrebird/content/Content" (51 : Nat) "com/example/lyrebird/lyrebird/content/Content" "md5" "[B") ∈ tables_1 := List.mem_of_getElem? (i := 28) rfl
theorem tw_29 : (Jvm.Cond.laysFinal "com/example/lyrebird/lyrebird/content/Content" "com/example/lyrebird/lyrebird/content/Content" "md5" "[B") ∈ tables_1 := List.mem_of_getElem? (i := 29) rfl
theorem tw_30 : (Jvm.Cond.methodLink "com/example/lyrebird/lyrebird/content/ContentBytesPinLaw" (22 : Nat) ({ cls := "com/example/lyrebird/lyrebird/content/Content", name := "bytes", desc := "()Ljava/util/Optional;" } : Jvm.MethodName)) ∈ tables_1 := List.mem_of_getElem? (i := 30) rfl
theorem tw_31 : (Jvm.Cond.declares ({ cls := "com/example/lyrebird/lyrebird/content/Content", name := "bytes", desc := "()Ljava/util/Optional;" } : Jvm.MethodName)) ∈ tables_1 := List.mem_of_getElem? (i := 31) rfl
theorem tw_32 : (Jvm.Cond.instanceMethod ({ cls := "com/example/lyrebird/lyrebird/content/Content", name := "bytes", desc := "()Ljava/util/Optional;" } : Jvm.MethodName)) ∈ tables_1 := List.mem_of_getElem? (i := 32) rfl
theorem tw_33 : (Jvm.Cond.selects "com/example/lyrebird/lyrebird/content/Content" ({ cls := "com/example/lyrebird/lyrebird/content/Content", name := "bytes", desc := "()Ljava/util/Optional;" } : Jvm.MethodName) ({ cls := "com/example/lyrebird/lyrebird/content/Content", name := "bytes", desc := "()Ljava/util/Optional;" } : Jvm.MethodName)) ∈ tables_1 := List.mem_of_getElem? (i := 33) rfl
theorem tw_34 : (Jvm.Cond.code ({ cls := "com/example/lyrebird/lyrebird/content/Content", name := "bytes", desc := "()Ljava/util/Optional;" } : Jvm.MethodName) prog_2_method_5_code (1 : Nat) (Option.some (Jvm.ClassFile.FieldType.object "java/util/Optional"))) ∈ tables_1 := List.mem_of_getElem? (i := 34) rfl
theorem tw_35 : (Jvm.Cond.methodLink "com/example/lyrebird/lyrebird/content/Content" (64 : Nat) ({ cls := "java/util/Optional", name := "of", desc := "(Ljava/lang/Object;)Ljava/util/Optional;" } : Jvm.MethodName)) ∈ tables_1 := List.mem_of_getElem? (i := 35) rfl
theorem tw_36 : (Jvm.Cond.static ({ cls := "java/util/Optional", name := "of", desc := "(Ljava/lang/Object;)Ljava/util/Optional;" } : Jvm.MethodName)) ∈ tables_1 := List.mem_of_getElem? (i := 36) rfl
theorem tw_37 : (Jvm.Cond.initialized "java/util/Optional") ∈ tables_1 := List.mem_of_getElem? (i := 37) rfl
theorem tw_38 : (Jvm.Cond.code ({ cls := "java/util/Optional", name := "of", desc := "(Ljava/lang/Object;)Ljava/util/Optional;" } : Jvm.MethodName) jdk_32_method_3_code (1 : Nat) (Option.some (Jvm.ClassFile.FieldType.object "java/util/Optional"))) ∈ tables_1 := List.mem_of_getElem? (i := 38) rfl
theorem tw_39 : (Jvm.Cond.classLink "java/util/Optional" (2 : Nat) "java/util/Optional") ∈ tables_1 := List.mem_of_getElem? (i := 39) rfl
theorem tw_40 : (Jvm.Cond.instantiable "java/util/Optional" (1 : Nat)) ∈ tables_1 := List.mem_of_getElem? (i := 40) rfl
theorem tw_41 : (Jvm.Cond.methodLink "java/util/Optional" (17 : Nat) ({ cls := "java/util/Objects", name := "requireNonNull", desc := "(Ljava/lang/Object;)Ljava/lang/Object;" } : Jvm.MethodName)) ∈ tables_1 := List.mem_of_getElem? (i := 41) rfl
theorem tw_42 : (Jvm.Cond.static ({ cls := "java/util/Objects", name := "requireNonNull", desc := "(Ljava/lang/Object;)Ljava/lang/Object;" } : Jvm.MethodName)) ∈ tables_1 := List.mem_of_getElem? (i := 42) rfl
theorem tw_43 : (Jvm.Cond.initialized "java/util/Objects") ∈ tables_1 := List.mem_of_getElem? (i := 43) rfl
theorem tw_44 : (Jvm.Cond.code ({ cls := "java/util/Objects", name := "requireNonNull", desc := "(Ljava/lang/Object;)Ljava/lang/Object;" } : Jvm.MethodName) jdk_31_method_10_code (1 : Nat) (Option.some (Jvm.ClassFile.FieldType.object "java/lang/Object"))) ∈ tables_1 := List.mem_of_getElem? (i := 44) rfl
theorem tw_45 : (Jvm.Cond.methodLink "java/util/Optional" (23 : Nat) ({ cls := "java/util/Optional", name := "<init>", desc := "(Ljava/lang/Object;)V" } : Jvm.MethodName)) ∈ tables_1 := List.mem_of_getElem? (i := 45) rfl
theorem tw_46 : (Jvm.Cond.instanceMethod ({ cls := "java/util/Optional", name := "<init>", desc := "(Ljava/lang/Object;)V" } : Jvm.MethodName)) ∈ tables_1 := List.mem_of_getElem? (i := 46) rfl
theorem tw_48 : (Jvm.Cond.code ({ cls := "java/util/Optional", name := "<init>", desc := "(Ljava/lang/Object;)V" } : Jvm.MethodName) jdk_32_method_2_code (2 : Nat) (Option.none : Option Jvm.ClassFile.FieldType)) ∈ tables_1 := List.mem_of_getElem? (i := 48) rfl
theorem tw_49 : (Jvm.Cond.methodLink "java/util/Optional" (7 : Nat) ({ cls := "java/lang/Object", name := "<init>", desc := "()V" } : Jvm.MethodName)) ∈ tables_1 := List.mem_of_getElem? (i := 49) rfl
theorem tw_50 : (Jvm.Cond.fieldLink "java/util/Optional" (13 : Nat) "java/util/Optional" "value" "Ljava/lang/Object;") ∈ tables_1 := List.mem_of_getElem? (i := 50) rfl
theorem tw_51 : (Jvm.Cond.laysFinal "java/util/Optional" "java/util/Optional" "value" "Ljava/lang/Object;") ∈ tables_1 := List.mem_of_getElem? (i := 51) rfl
theorem tw_52 : (Jvm.Cond.methodLink "com/example/lyrebird/lyrebird/content/ContentBytesPinLaw" (26 : Nat) ({ cls := "java/util/Optional", name := "isPresent", desc := "()Z" } : Jvm.MethodName)) ∈ tables_1 := List.mem_of_getElem? (i := 52) rfl
theorem tw_53 : (Jvm.Cond.declares ({ cls := "java/util/Optional", name := "isPresent", desc := "()Z" } : Jvm.MethodName)) ∈ tables_1 := List.mem_of_getElem? (i := 53) rfl
theorem tw_54 : (Jvm.Cond.instanceMethod ({ cls := "java/util/Optional", name := "isPresent", desc := "()Z" } : Jvm.MethodName)) ∈ tables_1 := List.mem_of_getElem? (i := 54) rfl
theorem tw_55 : (Jvm.Cond.selects "java/util/Optional" ({ cls := "java/util/Optional", name := "isPresent", desc := "()Z" } : Jvm.MethodName) ({ cls := "java/util/Optional", name := "isPresent", desc := "()Z" } : Jvm.MethodName)) ∈ tables_1 := List.mem_of_getElem? (i := 55) rfl
theorem tw_56 : (Jvm.Cond.code ({ cls := "java/util/Optional", name := "isPresent", desc := "()Z" } : Jvm.MethodName) jdk_32_method_6_code (1 : Nat) (Option.some Jvm.ClassFile.FieldType.boolean)) ∈ tables_1 := List.mem_of_getElem? (i := 56) rfl
theorem tw_57 : (Jvm.Cond.methodLink "com/example/lyrebird/lyrebird/content/ContentBytesPinLaw" (36 : Nat) ({ cls := "java/util/Optional", name := "get", desc := "()Ljava/lang/Object;" } : Jvm.MethodName)) ∈ tables_1 := List.mem_of_getElem? (i := 57) rfl
theorem tw_58 : (Jvm.Cond.declares ({ cls := "java/util/Optional", name := "get", desc := "()Ljava/lang/Object;" } : Jvm.MethodName)) ∈ tables_1 := List.mem_of_getElem? (i := 58) rfl
theorem tw_59 : (Jvm.Cond.instanceMethod ({ cls := "java/util/Optional", name := "get", desc := "()Ljava/lang/Object;" } : Jvm.MethodName)) ∈ tables_1 := List.mem_of_getElem? (i := 59) rfl
theorem tw_60 : (Jvm.Cond.selects "java/util/Optional" ({ cls := "java/util/Optional", name := "get", desc := "()Ljava/lang/Object;" } : Jvm.MethodName) ({ cls := "java/util/Optional", name := "get", desc := "()Ljava/lang/Object;" } : Jvm.MethodName)) ∈ tables_1 := List.mem_of_getElem? (i := 60) rfl
theorem tw_61 : (Jvm.Cond.code ({ cls := "java/util/Optional", name := "get", desc := "()Ljava/lang/Object;" } : Jvm.MethodName) jdk_32_method_5_code (1 : Nat) (Option.some (Jvm.ClassFile.FieldType.object "java/lang/Object"))) ∈ tables_1 := List.mem_of_getElem? (i := 61) rfl
theorem tw_62 : (Jvm.Cond.classLink "com/example/lyrebird/lyrebird/content/ContentBytesPinLaw" (40 : Nat) "[B") ∈ tables_1 := List.mem_of_getElem? (i := 62) rfl
theorem tw_63 : (Jvm.Cond.methodLink "com/example/lyrebird/lyrebird/content/ContentBytesPinLaw" (42 : Nat) ({ cls := "com/example/lyrebird/lyrebird/content/ContentBytesPinLaw", name := "same", desc := "([BIBBB)Z" } : Jvm.MethodName)) ∈ tables_1 := List.mem_of_getElem? (i := 63) rfl
theorem tw_64 : (Jvm.Cond.static ({ cls := "com/example/lyrebird/lyrebird/content/ContentBytesPinLaw", name := "same", desc := "([BIBBB)Z" } : Jvm.MethodName)) ∈ tables_1 := List.mem_of_getElem? (i := 64) rfl
theorem tw_65 : (Jvm.Cond.initialized "com/example/lyrebird/lyrebird/content/ContentBytesPinLaw") ∈ tables_1 := List.mem_of_getElem? (i := 65) rfl
theorem tw_66 : (Jvm.Cond.code ({ cls := "com/example/lyrebird/lyrebird/content/ContentBytesPinLaw", name := "same", desc := "([BIBBB)Z" } : Jvm.MethodName) method_3_code (5 : Nat) (Option.some Jvm.ClassFile.FieldType.boolean)) ∈ tables_1 := List.mem_of_getElem? (i := 66) rfl
theorem tw_67 : (Jvm.Cond.classLink "com/example/lyrebird/lyrebird/content/ContentBytesPinLaw" (7 : Nat) "com/example/lyrebird/lyrebird/content/Content") ∈ tables_1 := List.mem_of_getElem? (i := 67) rfl
theorem tw_68 : (Jvm.Cond.methodLink "com/example/lyrebird/lyrebird/content/ContentBytesPinLaw" (9 : Nat) ({ cls := "java/lang/String", name := "valueOf", desc := "(C)Ljava/lang/String;" } : Jvm.MethodName)) ∈ tables_1 := List.mem_of_getElem? (i := 68) rfl
theorem tw_69 : (Jvm.Cond.static ({ cls := "java/lang/String", name := "valueOf", desc := "(C)Ljava/lang/String;" } : Jvm.MethodName)) ∈ tables_1 := List.mem_of_getElem? (i := 69) rfl
theorem tw_70 : (Jvm.Cond.initialized "java/lang/String") ∈ tables_1 := List.mem_of_getElem? (i := 70) rfl
theorem tw_71 : (Jvm.Cond.code ({ cls := "java/lang/String", name := "valueOf", desc := "(C)Ljava/lang/String;" } : Jvm.MethodName) jdk_42_method_139_code (1 : Nat) (Option.some (Jvm.ClassFile.FieldType.object "java/lang/String"))) ∈ tables_1 := List.mem_of_getElem? (i := 71) rfl
theorem tw_72 : (Jvm.Cond.fieldLink "java/lang/String" (38 : Nat) "java/lang/String" "COMPACT_STRINGS" "Z") ∈ tables_1 := List.mem_of_getElem? (i := 72) rfl
theorem tw_73 : (Jvm.Cond.methodLink "java/lang/String" (1015 : Nat) ({ cls := "java/lang/StringLatin1", name := "canEncode", desc := "(C)Z" } : Jvm.MethodName)) ∈ tables_1 := List.mem_of_getElem? (i := 73) rfl
theorem tw_74 : (Jvm.Cond.static ({ cls := "java/lang/StringLatin1", name := "canEncode", desc := "(C)Z" } : Jvm.MethodName)) ∈ tables_1 := List.mem_of_getElem? (i := 74) rfl
theorem tw_75 : (Jvm.Cond.initialized "java/lang/StringLatin1") ∈ tables_1 := List.mem_of_getElem? (i := 75) rfl
theorem tw_76 : (Jvm.Cond.code ({ cls := "java/lang/StringLatin1", name := "canEncode", desc := "(C)Z" } : Jvm.MethodName) jdk_43_method_3_code (1 : Nat) (Option.some Jvm.ClassFile.FieldType.boolean)) ∈ tables_1 := List.mem_of_getElem? (i := 76) rfl
theorem tw_77 : (Jvm.Cond.classLink "java/lang/String" (10 : Nat) "java/lang/String") ∈ tables_1 := List.mem_of_getElem? (i := 77) rfl
theorem tw_78 : (Jvm.Cond.instantiable "java/lang/String" (4 : Nat)) ∈ tables_1 := List.mem_of_getElem? (i := 78) rfl
theorem tw_79 : (Jvm.Cond.methodLink "java/lang/String" (1018 : Nat) ({ cls := "java/lang/StringLatin1", name := "toBytes", desc := "(C)[B" } : Jvm.MethodName)) ∈ tables_1 := List.mem_of_getElem? (i := 79) rfl
theorem tw_80 : (Jvm.Cond.static ({ cls := "java/lang/StringLatin1", name := "toBytes", desc := "(C)[B" } : Jvm.MethodName)) ∈ tables_1 := List.mem_of_getElem? (i := 80) rfl
theorem tw_81 : (Jvm.Cond.code ({ cls := "java/lang/StringLatin1", name := "toBytes", desc := "(C)[B" } : Jvm.MethodName) jdk_43_method_46_code (1 : Nat) (Option.some (Jvm.ClassFile.FieldType.array Jvm.ClassFile.FieldType.byte))) ∈ tables_1 := List.mem_of_getElem? (i := 81) rfl
theorem tw_82 : (Jvm.Cond.methodLink "java/lang/String" (209 : Nat) ({ cls := "java/lang/String", name := "<init>", desc := "([BB)V" } : Jvm.MethodName)) ∈ tables_1 := List.mem_of_getElem? (i := 82) rfl
theorem tw_83 : (Jvm.Cond.instanceMethod ({ cls := "java/lang/String", name := "<init>", desc := "([BB)V" } : Jvm.MethodName)) ∈ tables_1 := List.mem_of_getElem? (i := 83) rfl
theorem tw_85 : (Jvm.Cond.code ({ cls := "java/lang/String", name := "<init>", desc := "([BB)V" } : Jvm.MethodName) jdk_42_method_151_code (3 : Nat) (Option.none : Option Jvm.ClassFile.FieldType)) ∈ tables_1 := List.mem_of_getElem? (i := 85) rfl
theorem tw_86 : (Jvm.Cond.methodLink "java/lang/String" (1 : Nat) ({ cls := "java/lang/Object", name := "<init>", desc := "()V" } : Jvm.MethodName)) ∈ tables_1 := List.mem_of_getElem? (i := 86) rfl
theorem tw_87 : (Jvm.Cond.fieldLink "java/lang/String" (9 : Nat) "java/lang/String" "value" "[B") ∈ tables_1 := List.mem_of_getElem? (i := 87) rfl
theorem tw_88 : (Jvm.Cond.laysFinal "java/lang/String" "java/lang/String" "value" "[B") ∈ tables_1 := List.mem_of_getElem? (i := 88) rfl
theorem tw_89 : (Jvm.Cond.fieldLink "java/lang/String" (15 : Nat) "java/lang/String" "coder" "B") ∈ tables_1 := List.mem_of_getElem? (i := 89) rfl
theorem tw_90 : (Jvm.Cond.laysFinal "java/lang/String" "java/lang/String" "coder" "B") ∈ tables_1 := List.mem_of_getElem? (i := 90) rfl
theorem tw_91 : (Jvm.Cond.constantLong "com/example/lyrebird/lyrebird/content/ContentBytesPinLaw" (17 : Nat) (9223372036854775807 : Int64)) ∈ tables_1 := List.mem_of_getElem? (i := 91) rfl
theorem tw_92 : (Jvm.Cond.methodLink "com/example/lyrebird/lyrebird/content/ContentBytesPinLaw" (19 : Nat) ({ cls := "com/example/lyrebird/lyrebird/content/Content", name := "<init>", desc := "(Ljava/lang/String;J[B)V" } : Jvm.MethodName)) ∈ tables_1 := List.mem_of_getElem? (i := 92) rfl
theorem tw_93 : (Jvm.Cond.instanceMethod ({ cls := "com/example/lyrebird/lyrebird/content/Content", name := "<init>", desc := "(Ljava/lang/String;J[B)V" } : Jvm.MethodName)) ∈ tables_1 := List.mem_of_getElem? (i := 93) rfl
theorem tw_94 : (Jvm.Cond.code ({ cls := "com/example/lyrebird/lyrebird/content/Content", name := "<init>", desc := "(Ljava/lang/String;J[B)V" } : Jvm.MethodName) prog_2_method_1_code (5 : Nat) (Option.none : Option Jvm.ClassFile.FieldType)) ∈ tables_1 := List.mem_of_getElem? (i := 94) rfl
theorem tw_95 : (Jvm.Cond.stringLink "com/example/lyrebird/lyrebird/content/Content" (1 : Nat) "id") ∈ tables_1 := List.mem_of_getElem? (i := 95) rfl
theorem tw_98 : (Jvm.Cond.methodLink "com/example/lyrebird/lyrebird/content/Content" (3 : Nat) ({ cls := "java/util/Objects", name := "requireNonNull", desc := "(Ljava/lang/Object;Ljava/lang/String;)Ljava/lang/Object;" } : Jvm.MethodName)) ∈ tables_1 := List.mem_of_getElem? (i := 98) rfl
theorem tw_99 : (Jvm.Cond.static ({ cls := "java/util/Objects", name := "requireNonNull", desc := "(Ljava/lang/Object;Ljava/lang/String;)Ljava/lang/Object;" } : Jvm.MethodName)) ∈ tables_1 := List.mem_of_getElem? (i := 99) rfl
theorem tw_100 : (Jvm.Cond.code ({ cls := "java/util/Objects", name := "requireNonNull", desc := "(Ljava/lang/Object;Ljava/lang/String;)Ljava/lang/Object;" } : Jvm.MethodName) jdk_31_method_11_code (2 : Nat) (Option.some (Jvm.ClassFile.FieldType.object "java/lang/Object"))) ∈ tables_1 := List.mem_of_getElem? (i := 100) rfl
theorem tw_101 : (Jvm.Cond.classLink "com/example/lyrebird/lyrebird/content/Content" (9 : Nat) "java/lang/String") ∈ tables_1 := List.mem_of_getElem? (i := 101) rfl
theorem tw_102 : (Jvm.Cond.methodLink "com/example/lyrebird/lyrebird/content/Content" (60 : Nat) ({ cls := "java/util/Optional", name := "empty", desc := "()Ljava/util/Optional;" } : Jvm.MethodName)) ∈ tables_1 := List.mem_of_getElem? (i := 102) rfl
theorem tw_103 : (Jvm.Cond.static ({ cls := "java/util/Optional", name := "empty", desc := "()Ljava/util/Optional;" } : Jvm.MethodName)) ∈ tables_1 := List.mem_of_getElem? (i := 103) rfl
theorem tw_104 : (Jvm.Cond.code ({ cls := "java/util/Optional", name := "empty", desc := "()Ljava/util/Optional;" } : Jvm.MethodName) jdk_32_method_1_code (1 : Nat) (Option.some (Jvm.ClassFile.FieldType.object "java/util/Optional"))) ∈ tables_1 := List.mem_of_getElem? (i := 104) rfl
theorem tw_105 : (Jvm.Cond.fieldLink "java/util/Optional" (1 : Nat) "java/util/Optional" "EMPTY" "Ljava/util/Optional;") ∈ tables_1 := List.mem_of_getElem? (i := 105) rfl
theorem d1_0 : decode prog_2_method_3_code 0 = .ok (.new 12, 3) := by decide +kernel
theorem d1_3 : decode prog_2_method_3_code 3 = .ok (.dup, 1) := by decide +kernel
theorem d1_4 : decode prog_2_method_3_code 4 = .ok (.aconst_null, 1) := by decide +kernel
theorem d1_5 : decode prog_2_method_3_code 5 = .ok (.aload_n 0, 1) := by decide +kernel
theorem d1_6 : decode prog_2_method_3_code 6 = .ok (.aload_n 0, 1) := by decide +kernel
theorem d1_7 : decode prog_2_method_3_code 7 = .ok (.arraylength, 1) := by decide +kernel
theorem d1_8 : decode prog_2_method_3_code 8 = .ok (.i2l, 1) := by decide +kernel
theorem d1_9 : decode prog_2_method_3_code 9 = .ok (.aload_n 1, 1) := by decide +kernel
theorem d1_10 : decode prog_2_method_3_code 10 = .ok (.invokespecial 11, 3) := by decide +kernel
theorem d1_13 : decode prog_2_method_3_code 13 = .ok (.areturn, 1) := by decide +kernel
theorem d2_0 : decode prog_2_method_2_code 0 = .ok (.aload_n 0, 1) := by decide +kernel
theorem d2_1 : decode prog_2_method_2_code 1 = .ok (.invokespecial 17, 3) := by decide +kernel
theorem d2_4 : decode prog_2_method_2_code 4 = .ok (.lload_n 3, 1) := by decide +kernel
theorem d2_5 : decode prog_2_method_2_code 5 = .ok (.lconst 0, 1) := by decide +kernel
theorem d2_6 : decode prog_2_method_2_code 6 = .ok (.lcmp, 1) := by decide +kernel
theorem d2_7 : decode prog_2_method_2_code 7 = .ok (.ifCond .ge 17, 3) := by decide +kernel
theorem d2_24 : decode prog_2_method_2_code 24 = .ok (.aload 5, 2) := by decide +kernel
theorem d2_26 : decode prog_2_method_2_code 26 = .ok (.arraylength, 1) := by decide +kernel
theorem d2_27 : decode prog_2_method_2_code 27 = .ok (.bipush 16, 2) := by decide +kernel
theorem d2_29 : decode prog_2_method_2_code 29 = .ok (.if_icmp .eq 19, 3) := by decide +kernel
theorem d2_48 : decode prog_2_method_2_code 48 = .ok (.aload_n 0, 1) := by decide +kernel
theorem d2_49 : decode prog_2_method_2_code 49 = .ok (.aload_n 1, 1) := by decide +kernel
theorem d2_50 : decode prog_2_method_2_code 50 = .ok (.putfield 34, 3) := by decide +kernel
theorem d2_53 : decode prog_2_method_2_code 53 = .ok (.aload_n 0, 1) := by decide +kernel
theorem d2_54 : decode prog_2_method_2_code 54 = .ok (.aload_n 2, 1) := by decide +kernel
theorem d2_55 : decode prog_2_method_2_code 55 = .ok (.ifnonnull 7, 3) := by decide +kernel
theorem d2_58 : decode prog_2_method_2_code 58 = .ok (.aconst_null, 1) := by decide +kernel
theorem d2_59 : decode prog_2_method_2_code 59 = .ok (.goto 10, 3) := by decide +kernel
theorem d2_62 : decode prog_2_method_2_code 62 = .ok (.aload_n 2, 1) := by decide +kernel
theorem d2_63 : decode prog_2_method_2_code 63 = .ok (.invokevirtual 38, 3) := by decide +kernel
theorem d2_66 : decode prog_2_method_2_code 66 = .ok (.checkcast 39, 3) := by decide +kernel
theorem d2_69 : decode prog_2_method_2_code 69 = .ok (.putfield 44, 3) := by decide +kernel
theorem d2_72 : decode prog_2_method_2_code 72 = .ok (.aload_n 0, 1) := by decide +kernel
theorem d2_73 : decode prog_2_method_2_code 73 = .ok (.lload_n 3, 1) := by decide +kernel
theorem d2_74 : decode prog_2_method_2_code 74 = .ok (.putfield 47, 3) := by decide +kernel
theorem d2_77 : decode prog_2_method_2_code 77 = .ok (.aload_n 0, 1) := by decide +kernel
theorem d2_78 : decode prog_2_method_2_code 78 = .ok (.aload 5, 2) := by decide +kernel
theorem d2_80 : decode prog_2_method_2_code 80 = .ok (.invokevirtual 38, 3) := by decide +kernel
theorem d2_83 : decode prog_2_method_2_code 83 = .ok (.checkcast 39, 3) := by decide +kernel
theorem d2_86 : decode prog_2_method_2_code 86 = .ok (.putfield 51, 3) := by decide +kernel
theorem d2_89 : decode prog_2_method_2_code 89 = .ok (.return_, 1) := by decide +kernel
theorem d4_0 : decode prog_2_method_5_code 0 = .ok (.aload_n 0, 1) := by decide +kernel
theorem d4_1 : decode prog_2_method_5_code 1 = .ok (.getfield 44, 3) := by decide +kernel
theorem d4_4 : decode prog_2_method_5_code 4 = .ok (.ifnonnull 9, 3) := by decide +kernel
theorem d4_7 : decode prog_2_method_5_code 7 = .ok (.invokestatic 60, 3) := by decide +kernel
theorem d4_10 : decode prog_2_method_5_code 10 = .ok (.goto 16, 3) := by decide +kernel
theorem d4_13 : decode prog_2_method_5_code 13 = .ok (.aload_n 0, 1) := by decide +kernel
theorem d4_14 : decode prog_2_method_5_code 14 = .ok (.getfield 44, 3) := by decide +kernel
theorem d4_17 : decode prog_2_method_5_code 17 = .ok (.invokevirtual 38, 3) := by decide +kernel
theorem d4_20 : decode prog_2_method_5_code 20 = .ok (.checkcast 39, 3) := by decide +kernel
theorem d4_23 : decode prog_2_method_5_code 23 = .ok (.invokestatic 64, 3) := by decide +kernel
theorem d4_26 : decode prog_2_method_5_code 26 = .ok (.areturn, 1) := by decide +kernel
theorem d5_0 : decode jdk_32_method_3_code 0 = .ok (.new 2, 3) := by decide +kernel
theorem d5_3 : decode jdk_32_method_3_code 3 = .ok (.dup, 1) := by decide +kernel
theorem d5_4 : decode jdk_32_method_3_code 4 = .ok (.aload_n 0, 1) := by decide +kernel
theorem d5_5 : decode jdk_32_method_3_code 5 = .ok (.invokestatic 17, 3) := by decide +kernel
theorem d5_8 : decode jdk_32_method_3_code 8 = .ok (.invokespecial 23, 3) := by decide +kernel
theorem d5_11 : decode jdk_32_method_3_code 11 = .ok (.areturn, 1) := by decide +kernel
theorem d6_0 : decode jdk_31_method_10_code 0 = .ok (.aload_n 0, 1) := by decide +kernel
theorem d6_1 : decode jdk_31_method_10_code 1 = .ok (.ifnonnull 11, 3) := by decide +kernel
theorem d6_12 : decode jdk_31_method_10_code 12 = .ok (.aload_n 0, 1) := by decide +kernel
theorem d6_13 : decode jdk_31_method_10_code 13 = .ok (.areturn, 1) := by decide +kernel
theorem d7_0 : decode jdk_32_method_2_code 0 = .ok (.aload_n 0, 1) := by decide +kernel
theorem d7_1 : decode jdk_32_method_2_code 1 = .ok (.invokespecial 7, 3) := by decide +kernel
theorem d7_4 : decode jdk_32_method_2_code 4 = .ok (.aload_n 0, 1) := by decide +kernel
theorem d7_5 : decode jdk_32_method_2_code 5 = .ok (.aload_n 1, 1) := by decide +kernel
theorem d7_6 : decode jdk_32_method_2_code 6 = .ok (.putfield 13, 3) := by decide +kernel
theorem d7_9 : decode jdk_32_method_2_code 9 = .ok (.return_, 1) := by decide +kernel
theorem d8_0 : decode jdk_32_method_6_code 0 = .ok (.aload_n 0, 1) := by decide +kernel
theorem d8_1 : decode jdk_32_method_6_code 1 = .ok (.getfield 13, 3) := by decide +kernel
theorem d8_4 : decode jdk_32_method_6_code 4 = .ok (.ifnull 7, 3) := by decide +kernel
theorem d8_7 : decode jdk_32_method_6_code 7 = .ok (.iconst 1, 1) := by decide +kernel
theorem d8_8 : decode jdk_32_method_6_code 8 = .ok (.goto 4, 3) := by decide +kernel
theorem d8_11 : decode jdk_32_method_6_code 11 = .ok (.iconst 0, 1) := by decide +kernel
theorem d8_12 : decode jdk_32_method_6_code 12 = .ok (.ireturn, 1) := by decide +kernel
theorem d9_0 : decode jdk_32_method_5_code 0 = .ok (.aload_n 0, 1) := by decide +kernel
theorem d9_1 : decode jdk_32_method_5_code 1 = .ok (.getfield 13, 3) := by decide +kernel
theorem d9_4 : decode jdk_32_method_5_code 4 = .ok (.ifnonnull 13, 3) := by decide +kernel
theorem d9_17 : decode jdk_32_method_5_code 17 = .ok (.aload_n 0, 1) := by decide +kernel
theorem d9_18 : decode jdk_32_method_5_code 18 = .ok (.getfield 13, 3) := by decide +kernel
theorem d9_21 : decode jdk_32_method_5_code 21 = .ok (.areturn, 1) := by decide +kernel
theorem d10_0 : decode method_3_code 0 = .ok (.aload_n 0, 1) := by decide +kernel
theorem d10_1 : decode method_3_code 1 = .ok (.arraylength, 1) := by decide +kernel
theorem d10_2 : decode method_3_code 2 = .ok (.iload_n 1, 1) := by decide +kernel
theorem d10_3 : decode method_3_code 3 = .ok (.if_icmp .eq 5, 3) := by decide +kernel
theorem d10_8 : decode method_3_code 8 = .ok (.iload_n 1, 1) := by decide +kernel
theorem d10_9 : decode method_3_code 9 = .ok (.iconst 1, 1) := by decide +kernel
theorem d10_10 : decode method_3_code 10 = .ok (.if_icmp .lt 12, 3) := by decide +kernel
theorem d10_13 : decode method_3_code 13 = .ok (.aload_n 0, 1) := by decide +kernel
theorem d10_14 : decode method_3_code 14 = .ok (.iconst 0, 1) := by decide +kernel
theorem d10_15 : decode method_3_code 15 = .ok (.baload, 1) := by decide +kernel
theorem d10_16 : decode method_3_code 16 = .ok (.iload_n 2, 1) := by decide +kernel
theorem d10_17 : decode method_3_code 17 = .ok (.if_icmp .eq 5, 3) := by decide +kernel
theorem d10_22 : decode method_3_code 22 = .ok (.iload_n 1, 1) := by decide +kernel
theorem d10_23 : decode method_3_code 23 = .ok (.iconst 2, 1) := by decide +kernel
theorem d10_24 : decode method_3_code 24 = .ok (.if_icmp .lt 12, 3) := by decide +kernel
theorem d10_27 : decode method_3_code 27 = .ok (.aload_n 0, 1) := by decide +kernel
theorem d10_28 : decode method_3_code 28 = .ok (.iconst 1, 1) := by decide +kernel
theorem d10_29 : decode method_3_code 29 = .ok (.baload, 1) := by decide +kernel
theorem d10_30 : decode method_3_code 30 = .ok (.iload_n 3, 1) := by decide +kernel
theorem d10_31 : decode method_3_code 31 = .ok (.if_icmp .eq 5, 3) := by decide +kernel
theorem d10_36 : decode method_3_code 36 = .ok (.iload_n 1, 1) := by decide +kernel
theorem d10_37 : decode method_3_code 37 = .ok (.iconst 3, 1) := by decide +kernel
theorem d10_38 : decode method_3_code 38 = .ok (.if_icmp .lt 13, 3) := by decide +kernel
theorem d10_41 : decode method_3_code 41 = .ok (.aload_n 0, 1) := by decide +kernel
theorem d10_42 : decode method_3_code 42 = .ok (.iconst 2, 1) := by decide +kernel
theorem d10_43 : decode method_3_code 43 = .ok (.baload, 1) := by decide +kernel
theorem d10_44 : decode method_3_code 44 = .ok (.iload 4, 2) := by decide +kernel
theorem d10_46 : decode method_3_code 46 = .ok (.if_icmp .eq 5, 3) := by decide +kernel
theorem d10_51 : decode method_3_code 51 = .ok (.iconst 1, 1) := by decide +kernel
theorem d10_52 : decode method_3_code 52 = .ok (.ireturn, 1) := by decide +kernel
theorem d11_0 : decode jdk_42_method_139_code 0 = .ok (.getstatic 38, 3) := by decide +kernel
theorem d11_3 : decode jdk_42_method_139_code 3 = .ok (.ifCond .eq 23, 3) := by decide +kernel
theorem d11_6 : decode jdk_42_method_139_code 6 = .ok (.iload_n 0, 1) := by decide +kernel
theorem d11_7 : decode jdk_42_method_139_code 7 = .ok (.invokestatic 1015, 3) := by decide +kernel
theorem d11_10 : decode jdk_42_method_139_code 10 = .ok (.ifCond .eq 16, 3) := by decide +kernel
theorem d11_13 : decode jdk_42_method_139_code 13 = .ok (.new 10, 3) := by decide +kernel
theorem d11_16 : decode jdk_42_method_139_code 16 = .ok (.dup, 1) := by decide +kernel
theorem d11_17 : decode jdk_42_method_139_code 17 = .ok (.iload_n 0, 1) := by decide +kernel
theorem d11_18 : decode jdk_42_method_139_code 18 = .ok (.invokestatic 1018, 3) := by decide +kernel
theorem d11_21 : decode jdk_42_method_139_code 21 = .ok (.iconst 0, 1) := by decide +kernel
theorem d11_22 : decode jdk_42_method_139_code 22 = .ok (.invokespecial 209, 3) := by decide +kernel
theorem d11_25 : decode jdk_42_method_139_code 25 = .ok (.areturn, 1) := by decide +kernel
theorem d12_0 : decode jdk_43_method_3_code 0 = .ok (.iload_n 0, 1) := by decide +kernel
theorem d12_1 : decode jdk_43_method_3_code 1 = .ok (.sipush 255, 3) := by decide +kernel
theorem d12_4 : decode jdk_43_method_3_code 4 = .ok (.if_icmp .gt 7, 3) := by decide +kernel
theorem d12_7 : decode jdk_43_method_3_code 7 = .ok (.iconst 1, 1) := by decide +kernel
theorem d12_8 : decode jdk_43_method_3_code 8 = .ok (.goto 4, 3) := by decide +kernel
theorem d12_12 : decode jdk_43_method_3_code 12 = .ok (.ireturn, 1) := by decide +kernel
theorem d13_0 : decode jdk_43_method_46_code 0 = .ok (.iconst 1, 1) := by decide +kernel
theorem d13_1 : decode jdk_43_method_46_code 1 = .ok (.newarray .byte, 2) := by decide +kernel
theorem d13_3 : decode jdk_43_method_46_code 3 = .ok (.dup, 1) := by decide +kernel
theorem d13_4 : decode jdk_43_method_46_code 4 = .ok (.iconst 0, 1) := by decide +kernel
theorem d13_5 : decode jdk_43_method_46_code 5 = .ok (.iload_n 0, 1) := by decide +kernel
theorem d13_6 : decode jdk_43_method_46_code 6 = .ok (.i2b, 1) := by decide +kernel
theorem d13_7 : decode jdk_43_method_46_code 7 = .ok (.bastore, 1) := by decide +kernel
theorem d13_8 : decode jdk_43_method_46_code 8 = .ok (.areturn, 1) := by decide +kernel
theorem d14_0 : decode jdk_42_method_151_code 0 = .ok (.aload_n 0, 1) := by decide +kernel
theorem d14_1 : decode jdk_42_method_151_code 1 = .ok (.invokespecial 1, 3) := by decide +kernel
theorem d14_4 : decode jdk_42_method_151_code 4 = .ok (.aload_n 0, 1) := by decide +kernel
theorem d14_5 : decode jdk_42_method_151_code 5 = .ok (.aload_n 1, 1) := by decide +kernel
theorem d14_6 : decode jdk_42_method_151_code 6 = .ok (.putfield 9, 3) := by decide +kernel
theorem d14_9 : decode jdk_42_method_151_code 9 = .ok (.aload_n 0, 1) := by decide +kernel
theorem d14_10 : decode jdk_42_method_151_code 10 = .ok (.iload_n 2, 1) := by decide +kernel
theorem d14_11 : decode jdk_42_method_151_code 11 = .ok (.putfield 15, 3) := by decide +kernel
theorem d14_14 : decode jdk_42_method_151_code 14 = .ok (.return_, 1) := by decide +kernel
theorem d15_0 : decode prog_2_method_1_code 0 = .ok (.aload_n 0, 1) := by decide +kernel
theorem d15_1 : decode prog_2_method_1_code 1 = .ok (.aload_n 1, 1) := by decide +kernel
theorem d15_2 : decode prog_2_method_1_code 2 = .ok (.ldc 1, 2) := by decide +kernel
theorem d15_4 : decode prog_2_method_1_code 4 = .ok (.invokestatic 3, 3) := by decide +kernel
theorem d15_7 : decode prog_2_method_1_code 7 = .ok (.checkcast 9, 3) := by decide +kernel
theorem d15_10 : decode prog_2_method_1_code 10 = .ok (.aconst_null, 1) := by decide +kernel
theorem d15_11 : decode prog_2_method_1_code 11 = .ok (.lload_n 2, 1) := by decide +kernel
theorem d15_12 : decode prog_2_method_1_code 12 = .ok (.aload 4, 2) := by decide +kernel
theorem d15_14 : decode prog_2_method_1_code 14 = .ok (.invokespecial 11, 3) := by decide +kernel
theorem d15_17 : decode prog_2_method_1_code 17 = .ok (.return_, 1) := by decide +kernel
theorem d16_0 : decode jdk_31_method_11_code 0 = .ok (.aload_n 0, 1) := by decide +kernel
theorem d16_1 : decode jdk_31_method_11_code 1 = .ok (.ifnonnull 12, 3) := by decide +kernel
theorem d16_13 : decode jdk_31_method_11_code 13 = .ok (.aload_n 0, 1) := by decide +kernel
theorem d16_14 : decode jdk_31_method_11_code 14 = .ok (.areturn, 1) := by decide +kernel
theorem d17_0 : decode jdk_32_method_1_code 0 = .ok (.getstatic 1, 3) := by decide +kernel
theorem d17_3 : decode jdk_32_method_1_code 3 = .ok (.astore_n 0, 1) := by decide +kernel
theorem d17_4 : decode jdk_32_method_1_code 4 = .ok (.aload_n 0, 1) := by decide +kernel
theorem d17_5 : decode jdk_32_method_1_code 5 = .ok (.areturn, 1) := by decide +kernel
theorem pd_0 : parseMethodDescriptor "(Ljava/lang/Object;)Ljava/lang/Object;" = some ⟨[(.object "java/lang/Object")], some (.object "java/lang/Object")⟩ := by decide +kernel
theorem pd_1 : parseMethodDescriptor "(Ljava/lang/Object;)V" = some ⟨[(.object "java/lang/Object")], none⟩ := by decide +kernel
theorem pd_2 : parseMethodDescriptor "(C)Z" = some ⟨[.char], some .boolean⟩ := by decide +kernel
theorem pd_3 : parseMethodDescriptor "(C)[B" = some ⟨[.char], some (.array .byte)⟩ := by decide +kernel
theorem pd_4 : parseMethodDescriptor "([BB)V" = some ⟨[(.array .byte), .byte], none⟩ := by decide +kernel
theorem pd_5 : parseMethodDescriptor "(Ljava/lang/String;[BJ[B)V" = some ⟨[(.object "java/lang/String"), (.array .byte), .long, (.array .byte)], none⟩ := by decide +kernel
theorem pd_6 : parseMethodDescriptor "(Ljava/lang/Object;)Ljava/util/Optional;" = some ⟨[(.object "java/lang/Object")], some (.object "java/util/Optional")⟩ := by decide +kernel
theorem pd_7 : parseMethodDescriptor "()Ljava/util/Optional;" = some ⟨[], some (.object "java/util/Optional")⟩ := by decide +kernel
theorem pd_8 : parseMethodDescriptor "(Ljava/lang/Object;Ljava/lang/String;)Ljava/lang/Object;" = some ⟨[(.object "java/lang/Object"), (.object "java/lang/String")], some (.object "java/lang/Object")⟩ := by decide +kernel
theorem pd_9 : parseMethodDescriptor "([B[B)Lcom/example/lyrebird/lyrebird/content/Content;" = some ⟨[(.array .byte), (.array .byte)], some (.object "com/example/lyrebird/lyrebird/content/Content")⟩ := by decide +kernel
theorem pd_10 : parseMethodDescriptor "()Z" = some ⟨[], some .boolean⟩ := by decide +kernel
theorem pd_11 : parseMethodDescriptor "()Ljava/lang/Object;" = some ⟨[], some (.object "java/lang/Object")⟩ := by decide +kernel
theorem pd_12 : parseMethodDescriptor "([BIBBB)Z" = some ⟨[(.array .byte), .int, .byte, .byte, .byte], some .boolean⟩ := by decide +kernel
theorem pd_13 : parseMethodDescriptor "(C)Ljava/lang/String;" = some ⟨[.char], some (.object "java/lang/String")⟩ := by decide +kernel
theorem pd_14 : parseMethodDescriptor "(Ljava/lang/String;J[B)V" = some ⟨[(.object "java/lang/String"), .long, (.array .byte)], none⟩ := by decide +kernel
theorem pn_0 : plainName "java/util/Objects" = true := by first | (simp [plainName, overriddenIn]; done) | decide +kernel
theorem pn_1 : plainName "java/util/Optional" = true := by first | (simp [plainName, overriddenIn]; done) | decide +kernel
theorem pn_2 : plainName "java/lang/StringLatin1" = true := by first | (simp [plainName, overriddenIn]; done) | decide +kernel
theorem pn_3 : plainName "java/lang/String" = true := by first | (simp [plainName, overriddenIn]; done) | decide +kernel
theorem pn_4 : plainName "com/example/lyrebird/lyrebird/content/Content" = true := by first | (simp [plainName, overriddenIn]; done) | decide +kernel
theorem pn_5 : plainName "com/example/lyrebird/lyrebird/content/ContentBytesPinLaw" = true := by first | (simp [plainName, overriddenIn]; done) | decide +kernel
theorem ef_6 (m : MethodId) (x0 : Addr) : entryFrame m #[(.ref x0)] 1 = mkF m 0 #[.val (.ref x0)] [] := by first | (simp [entryFrame, mkF, argsToLocals, Value.category]; done) | rfl
theorem ef_16 (m : MethodId) (x0 : Addr) (x1 : Addr) : entryFrame m #[(.ref x0), (.ref x1)] 2 = mkF m 0 #[.val (.ref x0), .val (.ref x1)] [] := by first | (simp [entryFrame, mkF, argsToLocals, Value.category]; done) | rfl
theorem ef_7 (m : MethodId) (x0 : Addr) (x1 : Addr) : entryFrame m #[(.ref x0), (.ref x1)] 2 = mkF m 0 #[.val (.ref x0), .val (.ref x1)] [] := by first | (simp [entryFrame, mkF, argsToLocals, Value.category]; done) | rfl
theorem ef_5 (m : MethodId) (x0 : Addr) : entryFrame m #[(.ref x0)] 1 = mkF m 0 #[.val (.ref x0)] [] := by first | (simp [entryFrame, mkF, argsToLocals, Value.category]; done) | rfl
theorem ef_8_n (m : MethodId) (x0 : Addr) : entryFrame m #[(.ref x0)] 1 = mkF m 0 #[.val (.ref x0)] [] := by first | (simp [entryFrame, mkF, argsToLocals, Value.category]; done) | rfl
theorem ef_8_r (m : MethodId) (x0 : Addr) : entryFrame m #[(.ref x0)] 1 = mkF m 0 #[.val (.ref x0)] [] := by first | (simp [entryFrame, mkF, argsToLocals, Value.category]; done) | rfl
theorem ef_9 (m : MethodId) (x0 : Addr) : entryFrame m #[(.ref x0)] 1 = mkF m 0 #[.val (.ref x0)] [] := by first | (simp [entryFrame, mkF, argsToLocals, Value.category]; done) | rfl
theorem ef_17 (m : MethodId)  : entryFrame m #[] 1 = mkF m 0 #[.unset] [] := by first | (simp [entryFrame, mkF, argsToLocals, Value.category]; done) | rfl
theorem ef_12 (m : MethodId) (x0 : Int32) : entryFrame m #[(.int x0)] 1 = mkF m 0 #[.val (.int x0)] [] := by first | (simp [entryFrame, mkF, argsToLocals, Value.category]; done) | rfl
theorem ef_13 (m : MethodId) (x0 : Int32) : entryFrame m #[(.int x0)] 1 = mkF m 0 #[.val (.int x0)] [] := by first | (simp [entryFrame, mkF, argsToLocals, Value.category]; done) | rfl
theorem ef_14 (m : MethodId) (x0 : Addr) (x1 : Addr) : entryFrame m #[(.ref x0), (.ref x1), (.int (0 : Int32))] 3 = mkF m 0 #[.val (.ref x0), .val (.ref x1), .val (.int (0 : Int32))] [] := by first | (simp [entryFrame, mkF, argsToLocals, Value.category]; done) | rfl
theorem ef_11 (m : MethodId) (x0 : Int32) : entryFrame m #[(.int x0)] 1 = mkF m 0 #[.val (.int x0)] [] := by first | (simp [entryFrame, mkF, argsToLocals, Value.category]; done) | rfl
theorem ef_2_a (m : MethodId) (x0 : Addr) (x2 : Addr) (x3 : Int64) (x4 : Addr) : entryFrame m #[(.ref x0), .null, (.ref x2), (.long x3), (.ref x4)] 6 = mkF m 0 #[.val (.ref x0), .val .null, .val (.ref x2), .val (.long x3), .second, .val (.ref x4)] [] := by first | (simp [entryFrame, mkF, argsToLocals, Value.category]; done) | rfl
theorem ef_2_b (m : MethodId) (x0 : Addr) (x1 : Addr) (x3 : Int64) (x4 : Addr) : entryFrame m #[(.ref x0), (.ref x1), .null, (.long x3), (.ref x4)] 6 = mkF m 0 #[.val (.ref x0), .val (.ref x1), .val .null, .val (.long x3), .second, .val (.ref x4)] [] := by first | (simp [entryFrame, mkF, argsToLocals, Value.category]; done) | rfl
theorem ef_1 (m : MethodId) (x0 : Addr) (x1 : Addr) : entryFrame m #[(.ref x0), (.ref x1)] 2 = mkF m 0 #[.val (.ref x0), .val (.ref x1)] [] := by first | (simp [entryFrame, mkF, argsToLocals, Value.category]; done) | rfl
theorem ef_4_a (m : MethodId) (x0 : Addr) : entryFrame m #[(.ref x0)] 1 = mkF m 0 #[.val (.ref x0)] [] := by first | (simp [entryFrame, mkF, argsToLocals, Value.category]; done) | rfl
theorem ef_4_b (m : MethodId) (x0 : Addr) : entryFrame m #[(.ref x0)] 1 = mkF m 0 #[.val (.ref x0)] [] := by first | (simp [entryFrame, mkF, argsToLocals, Value.category]; done) | rfl
theorem ef_10_0 (m : MethodId) (x0 : Addr) (x2 : Int32) (x3 : Int32) (x4 : Int32) : entryFrame m #[(.ref x0), (.int (0 : Int32)), (.int x2), (.int x3), (.int x4)] 5 = mkF m 0 #[.val (.ref x0), .val (.int (0 : Int32)), .val (.int x2), .val (.int x3), .val (.int x4)] [] := by first | (simp [entryFrame, mkF, argsToLocals, Value.category]; done) | rfl
theorem ef_10_1 (m : MethodId) (x0 : Addr) (x2 : Int32) (x3 : Int32) (x4 : Int32) : entryFrame m #[(.ref x0), (.int (1 : Int32)), (.int x2), (.int x3), (.int x4)] 5 = mkF m 0 #[.val (.ref x0), .val (.int (1 : Int32)), .val (.int x2), .val (.int x3), .val (.int x4)] [] := by first | (simp [entryFrame, mkF, argsToLocals, Value.category]; done) | rfl
theorem ef_10_2 (m : MethodId) (x0 : Addr) (x2 : Int32) (x3 : Int32) (x4 : Int32) : entryFrame m #[(.ref x0), (.int (2 : Int32)), (.int x2), (.int x3), (.int x4)] 5 = mkF m 0 #[.val (.ref x0), .val (.int (2 : Int32)), .val (.int x2), .val (.int x3), .val (.int x4)] [] := by first | (simp [entryFrame, mkF, argsToLocals, Value.category]; done) | rfl
theorem ef_10_3 (m : MethodId) (x0 : Addr) (x2 : Int32) (x3 : Int32) (x4 : Int32) : entryFrame m #[(.ref x0), (.int (3 : Int32)), (.int x2), (.int x3), (.int x4)] 5 = mkF m 0 #[.val (.ref x0), .val (.int (3 : Int32)), .val (.int x2), .val (.int x3), .val (.int x4)] [] := by first | (simp [entryFrame, mkF, argsToLocals, Value.category]; done) | rfl
theorem ef_15 (m : MethodId) (x0 : Addr) (x1 : Addr) (x2 : Int64) (x3 : Addr) : entryFrame m #[(.ref x0), (.ref x1), (.long x2), (.ref x3)] 5 = mkF m 0 #[.val (.ref x0), .val (.ref x1), .val (.long x2), .second, .val (.ref x3)] [] := by first | (simp [entryFrame, mkF, argsToLocals, Value.category]; done) | rfl
theorem ef_0 (m : MethodId) (x0 : Int32) (x1 : Int32) (x2 : Int64) (x3 : Int32) (x4 : Int64) : entryFrame m #[(.int x0), (.int x1), (.long x2), (.int x3), (.long x4)] maxLocals = mkF m 0 #[.val (.int x0), .val (.int x1), .val (.long x2), .second, .val (.int x3), .val (.long x4), .second, .unset, .unset, .unset, .unset, .unset, .unset, .unset, .unset, .unset, .unset, .unset] [] := by first | (simp [entryFrame, mkF, argsToLocals, Value.category, maxLocals]; done) | rfl
set_option maxRecDepth 65536 in
set_option maxHeartbeats 40000000 in
theorem rm6 (l : Launch) (Z : State) (a0 : Array Value) (hw : ∀ d ∈ tables_1, d.before a0 Z = true) (x0 : Addr) (h0 : Heap) :
    OwnMet l Z (⟨"java/util/Objects", "requireNonNull", "(Ljava/lang/Object;)Ljava/lang/Object;"⟩ : MethodName) jdk_31_method_10_code 1 (some (.object "java/lang/Object")) [] ({ frames := 0, cells := 0, slots := 0, locals := 0 } : Room) #[(.ref x0)] h0 (fun v h L => v = some (.ref x0) ∧ L = [] ∧ h = h0) := by
  refine own_body (plainFor_of_name pn_0) (fun m => ef_6 m x0) ?_
  intro p e s m below meth c s₁ X0 hx hby hml hown hnm hret hlk hZ e0
  replace hown : s.vm.findClass "java/util/Objects" = some m.cls := hown
  replace hml : c.maxLocals = 1 := hml
  show Ends p.tables e below _ (s₁.setTop (mkF m 0 #[.val (.ref x0)] []))
  refine own_aloadN X0 hx hby d6_0 rfl rfl rfl ?_
  refine own_ifnonnullYes X0 hx hby d6_1 (pcY := 12) (by decide) ?_
  refine own_aloadN X0 hx hby d6_12 rfl rfl rfl ?_
  refine own_ret X0 hx hby hret hlk d6_13 (.ref x0) rfl (Or.inr (Or.inr ⟨rfl, rfl, rfl⟩)) (by decide) (by decide) ?_
  exact ⟨rfl, rfl, e0⟩
set_option maxRecDepth 65536 in
set_option maxHeartbeats 40000000 in
theorem rm16 (l : Launch) (Z : State) (a0 : Array Value) (hw : ∀ d ∈ tables_1, d.before a0 Z = true) (x0 : Addr) (x1 : Addr) (h0 : Heap) :
    OwnMet l Z (⟨"java/util/Objects", "requireNonNull", "(Ljava/lang/Object;Ljava/lang/String;)Ljava/lang/Object;"⟩ : MethodName) jdk_31_method_11_code 2 (some (.object "java/lang/Object")) [] ({ frames := 0, cells := 0, slots := 0, locals := 0 } : Room) #[(.ref x0), (.ref x1)] h0 (fun v h L => v = some (.ref x0) ∧ L = [] ∧ h = h0) := by
  refine own_body (plainFor_of_name pn_0) (fun m => ef_16 m x0 x1) ?_
  intro p e s m below meth c s₁ X0 hx hby hml hown hnm hret hlk hZ e0
  replace hown : s.vm.findClass "java/util/Objects" = some m.cls := hown
  replace hml : c.maxLocals = 2 := hml
  show Ends p.tables e below _ (s₁.setTop (mkF m 0 #[.val (.ref x0), .val (.ref x1)] []))
  refine own_aloadN X0 hx hby d16_0 rfl rfl rfl ?_
  refine own_ifnonnullYes X0 hx hby d16_1 (pcY := 13) (by decide) ?_
  refine own_aloadN X0 hx hby d16_13 rfl rfl rfl ?_
  refine own_ret X0 hx hby hret hlk d16_14 (.ref x0) rfl (Or.inr (Or.inr ⟨rfl, rfl, rfl⟩)) (by decide) (by decide) ?_
  exact ⟨rfl, rfl, e0⟩
set_option maxRecDepth 65536 in
set_option maxHeartbeats 40000000 in
theorem rm7 (l : Launch) (Z : State) (a0 : Array Value) (hw : ∀ d ∈ tables_1, d.before a0 Z = true) (x0 : Addr) (x1 : Addr) (h0 : Heap) (n0 : Nat) (gx : n0 ≤ x0) (E : Exa Z h0 x0 "java/util/Optional") (F : Fld Z h0 x0 "java/util/Optional" "value" "Ljava/lang/Object;" .null) :
    OwnMet l Z (⟨"java/util/Optional", "<init>", "(Ljava/lang/Object;)V"⟩ : MethodName) jdk_32_method_2_code 2 none [] ({ frames := 1, cells := 0, slots := 0, locals := 12 } : Room) #[(.ref x0), (.ref x1)] h0 (fun v h L => v = none ∧ Fr n0 L ∧ Keep h0 h [x0] ∧ Fld Z h x0 "java/util/Optional" "value" "Ljava/lang/Object;" (.ref x1)) := by
  refine own_body (plainFor_of_name pn_1) (fun m => ef_7 m x0 x1) ?_
  intro p e s m below meth c s₁ X0 hx hby hml hown hnm hret hlk hZ e0
  replace hown : s.vm.findClass "java/util/Optional" = some m.cls := hown
  replace hml : c.maxLocals = 2 := hml
  have N0 := Fr.nil n0
  show Ends p.tables e below _ (s₁.setTop (mkF m 0 #[.val (.ref x0), .val (.ref x1)] []))
  refine own_aloadN X0 hx hby d7_0 rfl rfl rfl ?_
  refine own_initO X0 hx hby hZ hown (hw _ tw_49) (hw _ tw_11) (hw _ tw_12) e0 (by rw [hml]; rfl) (by decide) (W := 0) (Nat.le_refl _) (by decide) d7_1 rfl (fun T1 X1 e1 => ?_)
  refine own_aloadN X1 hx hby d7_4 rfl rfl rfl ?_
  refine own_aloadN X1 hx hby d7_5 rfl rfl rfl ?_
  refine own_putfield X1 hx hby hZ hown (host := "") (Or.inl (hw _ tw_50)) Via.refl e1 F E (Or.inr ⟨(hw _ tw_51), rfl, hnm⟩) (hw _ tw_40) (ty := (.object "java/lang/Object")) (by decide) rfl rfl N0 gx  d7_6 rfl (fun T2 h2 L2 X2 e2 W2 N2 => ?_)
  have F2 := F.same W2
  refine own_retV X2 hx hby hret hlk d7_9 (by decide) (by decide) ?_
  have f3 := ((Keep.refl h0 [x0]).wr W2 (Or.inl (by simp)))
  rw [e2]
  exact ⟨rfl, N2, f3, F2⟩
set_option maxRecDepth 65536 in
set_option maxHeartbeats 40000000 in
theorem rm5 (l : Launch) (Z : State) (a0 : Array Value) (hw : ∀ d ∈ tables_1, d.before a0 Z = true) (x0 : Addr) (h0 : Heap) (n0 : Nat) (O : Old Z n0 h0) :
    OwnMet l Z (⟨"java/util/Optional", "of", "(Ljava/lang/Object;)Ljava/util/Optional;"⟩ : MethodName) jdk_32_method_3_code 1 (some (.object "java/util/Optional")) [] ({ frames := 2, cells := 1, slots := 1, locals := 27 } : Room) #[(.ref x0)] h0 (fun v h L => ∃ b, v = some (.ref b) ∧ Fr n0 L ∧ Keep h0 h [] ∧ n0 ≤ b ∧ h0.size ≤ b ∧ Exa Z h b "java/util/Optional" ∧ Fld Z h b "java/util/Optional" "value" "Ljava/lang/Object;" (.ref x0)) := by
  refine own_body (plainFor_of_name pn_1) (fun m => ef_5 m x0) ?_
  intro p e s m below meth c s₁ X0 hx hby hml hown hnm hret hlk hZ e0
  replace hown : s.vm.findClass "java/util/Optional" = some m.cls := hown
  replace hml : c.maxLocals = 1 := hml
  have N0 := Fr.nil n0
  show Ends p.tables e below _ (s₁.setTop (mkF m 0 #[.val (.ref x0)] []))
  refine own_new X0 hx hby hZ hown (hw _ tw_39) (hw _ tw_40) (hw _ tw_37) e0 (by decide) (by decide) d5_0 rfl (fun T4 h4 b4 X4 e4 g4 E4 A4 D4 => ?_)
  have ge_b4 : n0 ≤ b4 := own_ge O g4
  have sz_b4 : h0.size ≤ b4 := Nat.le_trans (Keep.refl h0 []).1 (Nat.le_of_eq g4.symm)
  have F4_value : Fld Z h4 b4 "java/util/Optional" "value" "Ljava/lang/Object;" .null := D4 (Or.inr (hw _ tw_51)) (ty := (.object "java/lang/Object")) (by decide)
  refine own_dup X4 hx hby d5_3 rfl rfl ?_
  refine own_aloadN X4 hx hby d5_4 rfl rfl rfl ?_
  refine own_static X4 hx hby hZ (argsL := [(.ref x0)]) (rest := [(.ref b4), (.ref b4)]) hown (hw _ tw_41) (hw _ tw_42) (hw _ tw_43) (hw _ tw_44) (by decide) (rm6 l Z a0 hw x0 h4) e4 (by rw [hml]; rfl) pd_0 rfl (by decide) (W := 2) (Nat.le_refl _) (by decide) (by decide) (by decide) d5_5 rfl rfl (fun v5 T5 L5 X5 hQ5 => ?_)
  obtain ⟨rfl, rfl, e5⟩ := hQ5
  show Ends p.tables e below _ (T5.setTop (mkF m 8 #[.val (.ref x0)] [(.ref x0), (.ref b4), (.ref b4)]))
  refine own_special X5 hx hby hZ (a := b4) (argsL := [(.ref x0)]) (rest := [(.ref b4)]) hown rfl (hw _ tw_45) (hw _ tw_46) (hw _ tw_37) (hw _ tw_48) (by decide) (rm7 l Z a0 hw b4 x0 h4 n0 ge_b4 A4 F4_value) e5 (by rw [hml]; rfl) pd_1 rfl (by decide) (W := 1) (Nat.le_refl _) (by decide) (by decide) (by decide) d5_8 rfl rfl (fun v6 T6 L6 X6 hQ6 => ?_)
  obtain ⟨rfl, N6q, K6, F6⟩ := hQ6
  show Ends p.tables e below _ (T6.setTop (mkF m 11 #[.val (.ref x0)] [(.ref b4)]))
  refine own_ret X6 hx hby hret hlk d5_11 (.ref b4) rfl (Or.inr (Or.inr ⟨rfl, rfl, rfl⟩)) (by decide) (by decide) ?_
  have f7 := (((Keep.refl h0 []).ext E4).trans K6 (allS (Or.inr sz_b4) all0))
  have f8 := (A4.keep K6)
  exact ⟨b4, rfl, (Fr.app (Fr.app N0 (Fr.nil _)) N6q), f7, ge_b4, sz_b4, f8, F6⟩
set_option maxRecDepth 65536 in
set_option maxHeartbeats 40000000 in
theorem rm8_n (l : Launch) (Z : State) (a0 : Array Value) (hw : ∀ d ∈ tables_1, d.before a0 Z = true) (x0 : Addr) (h0 : Heap) (y : Addr) (F : Fld Z h0 x0 "java/util/Optional" "value" "Ljava/lang/Object;" .null) :
    OwnMet l Z (⟨"java/util/Optional", "isPresent", "()Z"⟩ : MethodName) jdk_32_method_6_code 1 (some .boolean) [] ({ frames := 0, cells := 0, slots := 0, locals := 0 } : Room) #[(.ref x0)] h0 (fun v h L => v = some (.int (0 : Int32)) ∧ L = [] ∧ h = h0) := by
  refine own_body (plainFor_of_name pn_1) (fun m => ef_8_n m x0) ?_
  intro p e s m below meth c s₁ X0 hx hby hml hown hnm hret hlk hZ e0
  replace hown : s.vm.findClass "java/util/Optional" = some m.cls := hown
  replace hml : c.maxLocals = 1 := hml
  show Ends p.tables e below _ (s₁.setTop (mkF m 0 #[.val (.ref x0)] []))
  refine own_aloadN X0 hx hby d8_0 rfl rfl rfl ?_
  refine own_getfield X0 hx hby hZ hown (host := "") (Or.inl (hw _ tw_50)) Via.refl e0 F d8_1 rfl (fun T9 X9 e9 => ?_)
  refine own_ifnullYes X9 hx hby d8_4 (pcY := 11) (by decide) ?_
  refine own_iconst X9 hx hby d8_11 rfl (0 : Int32) rfl ?_
  refine own_ret X9 hx hby hret hlk d8_12 (.int (0 : Int32)) rfl (Or.inl ⟨rfl, by simp, _, rfl⟩) (by decide) (by decide) ?_
  exact ⟨rfl, rfl, e9⟩
set_option maxRecDepth 65536 in
set_option maxHeartbeats 40000000 in
theorem rm8_r (l : Launch) (Z : State) (a0 : Array Value) (hw : ∀ d ∈ tables_1, d.before a0 Z = true) (x0 : Addr) (h0 : Heap) (y : Addr) (F : Fld Z h0 x0 "java/util/Optional" "value" "Ljava/lang/Object;" (.ref y)) :
    OwnMet l Z (⟨"java/util/Optional", "isPresent", "()Z"⟩ : MethodName) jdk_32_method_6_code 1 (some .boolean) [] ({ frames := 0, cells := 0, slots := 0, locals := 0 } : Room) #[(.ref x0)] h0 (fun v h L => v = some (.int (1 : Int32)) ∧ L = [] ∧ h = h0) := by
  refine own_body (plainFor_of_name pn_1) (fun m => ef_8_r m x0) ?_
  intro p e s m below meth c s₁ X0 hx hby hml hown hnm hret hlk hZ e0
  replace hown : s.vm.findClass "java/util/Optional" = some m.cls := hown
  replace hml : c.maxLocals = 1 := hml
  show Ends p.tables e below _ (s₁.setTop (mkF m 0 #[.val (.ref x0)] []))
  refine own_aloadN X0 hx hby d8_0 rfl rfl rfl ?_
  refine own_getfield X0 hx hby hZ hown (host := "") (Or.inl (hw _ tw_50)) Via.refl e0 F d8_1 rfl (fun T10 X10 e10 => ?_)
  refine own_ifnullNo X10 hx hby d8_4 rfl ?_
  refine own_iconst X10 hx hby d8_7 rfl (1 : Int32) rfl ?_
  refine own_goto X10 hx hby d8_8 (pc' := 12) (by decide) ?_
  refine own_ret X10 hx hby hret hlk d8_12 (.int (1 : Int32)) rfl (Or.inl ⟨rfl, by simp, _, rfl⟩) (by decide) (by decide) ?_
  exact ⟨rfl, rfl, e10⟩
set_option maxRecDepth 65536 in
set_option maxHeartbeats 40000000 in
theorem rm9 (l : Launch) (Z : State) (a0 : Array Value) (hw : ∀ d ∈ tables_1, d.before a0 Z = true) (x0 : Addr) (h0 : Heap) (y : Addr) (F : Fld Z h0 x0 "java/util/Optional" "value" "Ljava/lang/Object;" (.ref y)) :
    OwnMet l Z (⟨"java/util/Optional", "get", "()Ljava/lang/Object;"⟩ : MethodName) jdk_32_method_5_code 1 (some (.object "java/lang/Object")) [] ({ frames := 0, cells := 0, slots := 0, locals := 0 } : Room) #[(.ref x0)] h0 (fun v h L => v = some (.ref y) ∧ L = [] ∧ h = h0) := by
  refine own_body (plainFor_of_name pn_1) (fun m => ef_9 m x0) ?_
  intro p e s m below meth c s₁ X0 hx hby hml hown hnm hret hlk hZ e0
  replace hown : s.vm.findClass "java/util/Optional" = some m.cls := hown
  replace hml : c.maxLocals = 1 := hml
  show Ends p.tables e below _ (s₁.setTop (mkF m 0 #[.val (.ref x0)] []))
  refine own_aloadN X0 hx hby d9_0 rfl rfl rfl ?_
  refine own_getfield X0 hx hby hZ hown (host := "") (Or.inl (hw _ tw_50)) Via.refl e0 F d9_1 rfl (fun T11 X11 e11 => ?_)
  refine own_ifnonnullYes X11 hx hby d9_4 (pcY := 17) (by decide) ?_
  refine own_aloadN X11 hx hby d9_17 rfl rfl rfl ?_
  refine own_getfield X11 hx hby hZ hown (host := "") (Or.inl (hw _ tw_50)) Via.refl e11 F d9_18 rfl (fun T12 X12 e12 => ?_)
  refine own_ret X12 hx hby hret hlk d9_21 (.ref y) rfl (Or.inr (Or.inr ⟨rfl, rfl, rfl⟩)) (by decide) (by decide) ?_
  exact ⟨rfl, rfl, e12⟩
set_option maxRecDepth 65536 in
set_option maxHeartbeats 40000000 in
theorem rm17 (l : Launch) (Z : State) (a0 : Array Value) (hw : ∀ d ∈ tables_1, d.before a0 Z = true)  (h0 : Heap) {z : Int32} {aE : Addr} (G : OwnG Z z aE) (O : Ext Z.heap h0) :
    OwnMet l Z (⟨"java/util/Optional", "empty", "()Ljava/util/Optional;"⟩ : MethodName) jdk_32_method_1_code 1 (some (.object "java/util/Optional")) [] ({ frames := 0, cells := 0, slots := 0, locals := 0 } : Room) #[] h0 (fun v h L => v = some (.ref aE) ∧ L = [] ∧ h = h0) := by
  refine own_body (plainFor_of_name pn_1) (fun m => ef_17 m ) ?_
  intro p e s m below meth c s₁ X0 hx hby hml hown hnm hret hlk hZ e0
  replace hown : s.vm.findClass "java/util/Optional" = some m.cls := hown
  replace hml : c.maxLocals = 1 := hml
  show Ends p.tables e below _ (s₁.setTop (mkF m 0 #[.unset] []))
  refine own_getstatic X0 hx hby hZ hown (host := "") (Or.inl (hw _ tw_105)) Via.refl e0 (G.2.2.1.ext O) d17_0 rfl (fun T13 X13 e13 => ?_)
  refine own_astoreN X13 hx hby d17_3 rfl #[.val (.ref aE)] rfl rfl ?_
  refine own_aloadN X13 hx hby d17_4 rfl rfl rfl ?_
  refine own_ret X13 hx hby hret hlk d17_5 (.ref aE) rfl (Or.inr (Or.inr ⟨rfl, rfl, rfl⟩)) (by decide) (by decide) ?_
  exact ⟨rfl, rfl, e13⟩
set_option maxRecDepth 65536 in
set_option maxHeartbeats 40000000 in
theorem rm12 (l : Launch) (Z : State) (a0 : Array Value) (hw : ∀ d ∈ tables_1, d.before a0 Z = true) (x0 : Int32) (h0 : Heap) (hc : x0.toInt ≤ 255) :
    OwnMet l Z (⟨"java/lang/StringLatin1", "canEncode", "(C)Z"⟩ : MethodName) jdk_43_method_3_code 1 (some .boolean) [] ({ frames := 0, cells := 0, slots := 0, locals := 0 } : Room) #[(.int x0)] h0 (fun v h L => v = some (.int 1) ∧ L = [] ∧ h = h0) := by
  refine own_body (plainFor_of_name pn_2) (fun m => ef_12 m x0) ?_
  intro p e s m below meth c s₁ X0 hx hby hml hown hnm hret hlk hZ e0
  replace hown : s.vm.findClass "java/lang/StringLatin1" = some m.cls := hown
  replace hml : c.maxLocals = 1 := hml
  show Ends p.tables e below _ (s₁.setTop (mkF m 0 #[.val (.int x0)] []))
  refine own_iloadN X0 hx hby d12_0 rfl rfl ?_
  refine own_sipush X0 hx hby d12_1 rfl (255 : Int32) rfl ?_
  refine own_icmp_gt X0 hx hby d12_4 (pcY := 11) (pcN := 7) (by decide) rfl (fun (hc14 : 255 < x0.toInt) => False.elim (by omega)) (fun (hc14 : x0.toInt ≤ 255) => ?_)
  refine own_iconst X0 hx hby d12_7 rfl (1 : Int32) rfl ?_
  refine own_goto X0 hx hby d12_8 (pc' := 12) (by decide) ?_
  refine own_ret X0 hx hby hret hlk d12_12 (.int (1 : Int32)) rfl (Or.inl ⟨rfl, by simp, _, rfl⟩) (by decide) (by decide) ?_
  exact ⟨rfl, rfl, e0⟩
set_option maxRecDepth 65536 in
set_option maxHeartbeats 40000000 in
theorem rm13 (l : Launch) (Z : State) (a0 : Array Value) (hw : ∀ d ∈ tables_1, d.before a0 Z = true) (x0 : Int32) (h0 : Heap) (n0 : Nat) (O : Old Z n0 h0) :
    OwnMet l Z (⟨"java/lang/StringLatin1", "toBytes", "(C)[B"⟩ : MethodName) jdk_43_method_46_code 1 (some (.array .byte)) [] ({ frames := 0, cells := 1, slots := 1, locals := 0 } : Room) #[(.int x0)] h0 (fun v h L => ∃ b k, v = some (.ref b) ∧ Fr n0 L ∧ Keep h0 h [] ∧ n0 ≤ b ∧ h0.size ≤ b ∧ Arv Z h b k .byte (1 : Int32) [(.int x0.toInt8.toInt32)] (.int 0)) := by
  refine own_body (plainFor_of_name pn_2) (fun m => ef_13 m x0) ?_
  intro p e s m below meth c s₁ X0 hx hby hml hown hnm hret hlk hZ e0
  replace hown : s.vm.findClass "java/lang/StringLatin1" = some m.cls := hown
  replace hml : c.maxLocals = 1 := hml
  have N0 := Fr.nil n0
  show Ends p.tables e below _ (s₁.setTop (mkF m 0 #[.val (.int x0)] []))
  refine own_iconst X0 hx hby d13_0 rfl (1 : Int32) rfl ?_
  refine own_newarray X0 hx hby hZ (aty := .byte) (hw _ tw_0) e0 (by decide) 1 (by decide) (by decide) (by decide) (by decide) .byte rfl [(.int (0 : Int32))] rfl d13_1 rfl (fun T15 h15 b15 k15 X15 e15 g15 E15 V15 => ?_)
  have ge_b15 : n0 ≤ b15 := own_ge O g15
  have sz_b15 : h0.size ≤ b15 := Nat.le_trans (Keep.refl h0 []).1 (Nat.le_of_eq g15.symm)
  refine own_dup X15 hx hby d13_3 rfl rfl ?_
  refine own_iconst X15 hx hby d13_4 rfl (0 : Int32) rfl ?_
  refine own_iloadN X15 hx hby d13_5 rfl rfl ?_
  refine own_i2b X15 hx hby d13_6 rfl ?_
  refine own_bastore X15 hx hby hZ x0.toInt8.toInt32 (own_narb _) e15 V15 (by decide) 0 rfl (show 0 < 1 by decide) [(.int x0.toInt8.toInt32)] rfl (fits_nar_byte _) N0 ge_b15 d13_7 rfl (fun T16 h16 L16 X16 e16 W16 V16 N16 => ?_)
  refine own_ret X16 hx hby hret hlk d13_8 (.ref b15) rfl (Or.inr (Or.inr ⟨rfl, rfl, rfl⟩)) (by decide) (by decide) ?_
  have f17 := (((Keep.refl h0 []).ext E15).wr W16 (Or.inr sz_b15))
  rw [e16]
  exact ⟨b15, _, rfl, N16, f17, ge_b15, sz_b15, V16⟩
set_option maxRecDepth 65536 in
set_option maxHeartbeats 40000000 in
theorem rm14 (l : Launch) (Z : State) (a0 : Array Value) (hw : ∀ d ∈ tables_1, d.before a0 Z = true) (x0 : Addr) (x1 : Addr) (h0 : Heap) (n0 : Nat) (gx : n0 ≤ x0) (E : Exa Z h0 x0 "java/lang/String") (F1 : Fld Z h0 x0 "java/lang/String" "value" "[B" .null) (F2 : Fld Z h0 x0 "java/lang/String" "coder" "B" (.int 0)) :
    OwnMet l Z (⟨"java/lang/String", "<init>", "([BB)V"⟩ : MethodName) jdk_42_method_151_code 3 none [] ({ frames := 1, cells := 0, slots := 0, locals := 12 } : Room) #[(.ref x0), (.ref x1), (.int (0 : Int32))] h0 (fun v h L => v = none ∧ Fr n0 L ∧ Keep h0 h [x0]) := by
  refine own_body (plainFor_of_name pn_3) (fun m => ef_14 m x0 x1) ?_
  intro p e s m below meth c s₁ X0 hx hby hml hown hnm hret hlk hZ e0
  replace hown : s.vm.findClass "java/lang/String" = some m.cls := hown
  replace hml : c.maxLocals = 3 := hml
  have N0 := Fr.nil n0
  show Ends p.tables e below _ (s₁.setTop (mkF m 0 #[.val (.ref x0), .val (.ref x1), .val (.int (0 : Int32))] []))
  refine own_aloadN X0 hx hby d14_0 rfl rfl rfl ?_
  refine own_initO X0 hx hby hZ hown (hw _ tw_86) (hw _ tw_11) (hw _ tw_12) e0 (by rw [hml]; rfl) (by decide) (W := 0) (Nat.le_refl _) (by decide) d14_1 rfl (fun T18 X18 e18 => ?_)
  refine own_aloadN X18 hx hby d14_4 rfl rfl rfl ?_
  refine own_aloadN X18 hx hby d14_5 rfl rfl rfl ?_
  refine own_putfield X18 hx hby hZ hown (host := "") (Or.inl (hw _ tw_87)) Via.refl e18 F1 E (Or.inr ⟨(hw _ tw_88), rfl, hnm⟩) (hw _ tw_78) (ty := (.array .byte)) (by decide) rfl rfl N0 gx  d14_6 rfl (fun T19 h19 L19 X19 e19 W19 N19 => ?_)
  have F19 := F1.same W19
  refine own_aloadN X19 hx hby d14_9 rfl rfl rfl ?_
  refine own_iloadN X19 hx hby d14_10 rfl rfl ?_
  have f20 := (E.wr W19)
  have f21 := (F2.other W19 (Or.inr (slot_ne (Or.inr (hw _ tw_90)) (Or.inr (hw _ tw_88)) (by decide) (t := .byte) (t' := (.array .byte)) (by decide) (by decide))))
  refine own_putfield X19 hx hby hZ hown (host := "") (Or.inl (hw _ tw_89)) Via.refl e19 f21 f20 (Or.inr ⟨(hw _ tw_90), rfl, hnm⟩) (hw _ tw_78) (ty := .byte) (by decide) rfl rfl N19 gx  d14_11 rfl (fun T22 h22 L22 X22 e22 W22 N22 => ?_)
  have F22 := f21.same W22
  refine own_retV X22 hx hby hret hlk d14_14 (by decide) (by decide) ?_
  have f23 := (((Keep.refl h0 [x0]).wr W19 (Or.inl (by simp))).wr W22 (Or.inl (by simp)))
  rw [e22]
  exact ⟨rfl, N22, f23⟩
set_option maxRecDepth 65536 in
set_option maxHeartbeats 40000000 in
theorem rm11 (l : Launch) (Z : State) (a0 : Array Value) (hw : ∀ d ∈ tables_1, d.before a0 Z = true) (x0 : Int32) (h0 : Heap) (n0 : Nat) {z : Int32} {aE : Addr} (G : OwnG Z z aE) (O : Old Z n0 h0) (hc : x0.toInt ≤ 255) :
    OwnMet l Z (⟨"java/lang/String", "valueOf", "(C)Ljava/lang/String;"⟩ : MethodName) jdk_42_method_139_code 1 (some (.object "java/lang/String")) [] ({ frames := 2, cells := 2, slots := 5, locals := 27 } : Room) #[(.int x0)] h0 (fun v h L => ∃ b, v = some (.ref b) ∧ Fr n0 L ∧ Keep h0 h [] ∧ n0 ≤ b ∧ h0.size ≤ b ∧ Exa Z h b "java/lang/String") := by
  refine own_body (plainFor_of_name pn_3) (fun m => ef_11 m x0) ?_
  intro p e s m below meth c s₁ X0 hx hby hml hown hnm hret hlk hZ e0
  replace hown : s.vm.findClass "java/lang/String" = some m.cls := hown
  replace hml : c.maxLocals = 1 := hml
  have N0 := Fr.nil n0
  show Ends p.tables e below _ (s₁.setTop (mkF m 0 #[.val (.int x0)] []))
  refine own_getstatic X0 hx hby hZ hown (host := "") (Or.inl (hw _ tw_72)) Via.refl e0 (G.1.ext O.2) d11_0 rfl (fun T24 X24 e24 => ?_)
  refine own_if_eq X24 hx hby d11_3 (pcY := 26) (pcN := 6) (by decide) rfl (fun (hc25 : z = (0 : Int32)) => False.elim (by exact G.2.1 hc25)) (fun (hc25 : ¬ z = (0 : Int32)) => ?_)
  refine own_iloadN X24 hx hby d11_6 rfl rfl ?_
  refine own_static X24 hx hby hZ (argsL := [(.int x0)]) (rest := []) hown (hw _ tw_73) (hw _ tw_74) (hw _ tw_75) (hw _ tw_76) (by decide) (rm12 l Z a0 hw x0 h0 hc) e24 (by rw [hml]; rfl) pd_2 rfl (by decide) (W := 0) (Nat.le_refl _) (by decide) (by decide) (by decide) d11_7 rfl rfl (fun v26 T26 L26 X26 hQ26 => ?_)
  obtain ⟨rfl, rfl, e26⟩ := hQ26
  show Ends p.tables e below _ (T26.setTop (mkF m 10 #[.val (.int x0)] [(.int (1 : Int32))]))
  refine own_if_eq X26 hx hby d11_10 (pcY := 26) (pcN := 13) (by decide) rfl (fun (hc27 : (1 : Int32) = (0 : Int32)) => False.elim (by exact absurd hc27 (by decide))) (fun (hc27 : ¬ (1 : Int32) = (0 : Int32)) => ?_)
  refine own_new X26 hx hby hZ hown (hw _ tw_77) (hw _ tw_78) (hw _ tw_70) e26 (by decide) (by decide) d11_13 rfl (fun T28 h28 b28 X28 e28 g28 E28 A28 D28 => ?_)
  have ge_b28 : n0 ≤ b28 := own_ge O g28
  have sz_b28 : h0.size ≤ b28 := Nat.le_trans (Keep.refl h0 []).1 (Nat.le_of_eq g28.symm)
  have F28_value : Fld Z h28 b28 "java/lang/String" "value" "[B" .null := D28 (Or.inr (hw _ tw_88)) (ty := (.array .byte)) (by decide)
  have F28_coder : Fld Z h28 b28 "java/lang/String" "coder" "B" (.int (0 : Int32)) := D28 (Or.inr (hw _ tw_90)) (ty := .byte) (by decide)
  refine own_dup X28 hx hby d11_16 rfl rfl ?_
  refine own_iloadN X28 hx hby d11_17 rfl rfl ?_
  have f30 := (O.ext E28)
  refine own_static X28 hx hby hZ (argsL := [(.int x0)]) (rest := [(.ref b28), (.ref b28)]) hown (hw _ tw_79) (hw _ tw_80) (hw _ tw_75) (hw _ tw_81) (by decide) (rm13 l Z a0 hw x0 h28 n0 f30) e28 (by rw [hml]; rfl) pd_3 rfl (by decide) (W := 2) (Nat.le_refl _) (by decide) (by decide) (by decide) d11_18 rfl rfl (fun v29 T29 L29 X29 hQ29 => ?_)
  obtain ⟨b29, k29, rfl, N29q, K29, gq29, sq29, V29⟩ := hQ29
  show Ends p.tables e below _ (T29.setTop (mkF m 21 #[.val (.int x0)] [(.ref b29), (.ref b28), (.ref b28)]))
  refine own_iconst X29 hx hby d11_21 rfl (0 : Int32) rfl ?_
  have f32 := (A28.keep K29)
  have f33 := (F28_value.keep K29 nin0)
  have f34 := (F28_coder.keep K29 nin0)
  refine own_special X29 hx hby hZ (a := b28) (argsL := [(.ref b29), (.int (0 : Int32))]) (rest := [(.ref b28)]) hown rfl (hw _ tw_82) (hw _ tw_83) (hw _ tw_70) (hw _ tw_85) (by decide) (rm14 l Z a0 hw b28 b29 T29.heap n0 ge_b28 f32 f33 f34) rfl (by rw [hml]; rfl) pd_4 rfl (by decide) (W := 1) (Nat.le_refl _) (by decide) (by decide) (by decide) d11_22 rfl rfl (fun v31 T31 L31 X31 hQ31 => ?_)
  obtain ⟨rfl, N31q, K31⟩ := hQ31
  show Ends p.tables e below _ (T31.setTop (mkF m 25 #[.val (.int x0)] [(.ref b28)]))
  refine own_ret X31 hx hby hret hlk d11_25 (.ref b28) rfl (Or.inr (Or.inr ⟨rfl, rfl, rfl⟩)) (by decide) (by decide) ?_
  have f35 := ((((Keep.refl h0 []).ext E28).trans K29 all0).trans K31 (allS (Or.inr sz_b28) all0))
  have f36 := (f32.keep K31)
  exact ⟨b28, rfl, (Fr.app (Fr.app (Fr.app N0 (Fr.nil _)) N29q) N31q), f35, ge_b28, sz_b28, f36⟩
set_option maxRecDepth 65536 in
set_option maxHeartbeats 40000000 in
theorem rm2_a (l : Launch) (Z : State) (a0 : Array Value) (hw : ∀ d ∈ tables_1, d.before a0 Z = true) (x0 : Addr) (x2 : Addr) (x3 : Int64) (x4 : Addr) (h0 : Heap) (n0 : Nat) (O : Old Z n0 h0) (gx : n0 ≤ x0) (E : Exa Z h0 x0 "com/example/lyrebird/lyrebird/content/Content") (F1 : Fld Z h0 x0 "com/example/lyrebird/lyrebird/content/Content" "file" "Ljava/lang/String;" .null) (F2 : Fld Z h0 x0 "com/example/lyrebird/lyrebird/content/Content" "bytes" "[B" .null) (F3 : Fld Z h0 x0 "com/example/lyrebird/lyrebird/content/Content" "length" "J" (.long (0 : Int64))) (F4 : Fld Z h0 x0 "com/example/lyrebird/lyrebird/content/Content" "md5" "[B" .null) (hl : 0 ≤ x3.toInt) {k4 : ClassId} {vs4 : List Value} (V4 : Arv Z h0 x4 k4 .byte (16 : Int32) vs4 (.int 0)) (E4 : Exa Z h0 x4 "[B") (n04 : x0 ≠ x4) {k2 : ClassId} {nn : Int32} {vs2 : List Value} (V2 : Arv Z h0 x2 k2 .byte nn vs2 (.int 0)) (E2 : Exa Z h0 x2 "[B") (n02 : x0 ≠ x2) (hcap : nn.toNatClampNeg ≤ 3) :
    OwnMet l Z (⟨"com/example/lyrebird/lyrebird/content/Content", "<init>", "(Ljava/lang/String;[BJ[B)V"⟩ : MethodName) prog_2_method_2_code 6 none [] ({ frames := 1, cells := 2, slots := 19, locals := 16 } : Room) #[(.ref x0), .null, (.ref x2), (.long x3), (.ref x4)] h0 (fun v h L => v = none ∧ Fr n0 L ∧ Keep h0 h [x0] ∧ ∃ b, n0 ≤ b ∧ h0.size ≤ b ∧ Fld Z h x0 "com/example/lyrebird/lyrebird/content/Content" "bytes" "[B" (.ref b) ∧ Arv Z h b k2 .byte nn vs2 (.int 0) ∧ Exa Z h b "[B") := by
  refine own_body (plainFor_of_name pn_4) (fun m => ef_2_a m x0 x2 x3 x4) ?_
  intro p e s m below meth c s₁ X0 hx hby hml hown hnm hret hlk hZ e0
  replace hown : s.vm.findClass "com/example/lyrebird/lyrebird/content/Content" = some m.cls := hown
  replace hml : c.maxLocals = 6 := hml
  have N0 := Fr.nil n0
  show Ends p.tables e below _ (s₁.setTop (mkF m 0 #[.val (.ref x0), .val .null, .val (.ref x2), .val (.long x3), .second, .val (.ref x4)] []))
  refine own_aloadN X0 hx hby d2_0 rfl rfl rfl ?_
  refine own_initO X0 hx hby hZ hown (hw _ tw_10) (hw _ tw_11) (hw _ tw_12) e0 (by rw [hml]; rfl) (by decide) (W := 0) (Nat.le_refl _) (by decide) d2_1 rfl (fun T37 X37 e37 => ?_)
  refine own_lloadN X37 hx hby d2_4 rfl rfl ?_
  refine own_lconst X37 hx hby d2_5 rfl (0 : Int64) rfl ?_
  refine own_lcmp_ge X37 hx hby d2_6 d2_7 (pcY := 24) (pcN := 10) (by decide) rfl (fun (hc38 : 0 ≤ x3.toInt) => ?_) (fun (hc38 : x3.toInt < 0) => False.elim (by omega))
  refine own_aload X37 hx hby d2_24 rfl rfl rfl ?_
  refine own_arraylength X37 hx hby hZ e37 V4 d2_26 rfl ?_
  refine own_bipush X37 hx hby d2_27 rfl (16 : Int32) rfl ?_
  refine own_icmp_eq X37 hx hby d2_29 (pcY := 48) (pcN := 32) (by decide) rfl (fun (hc39 : (16 : Int32) = (16 : Int32)) => ?_) (fun (hc39 : ¬ (16 : Int32) = (16 : Int32)) => False.elim (by exact absurd hc39 (by decide)))
  refine own_aloadN X37 hx hby d2_48 rfl rfl rfl ?_
  refine own_aloadN X37 hx hby d2_49 rfl rfl rfl ?_
  refine own_putfield X37 hx hby hZ hown (host := "") (Or.inl (hw _ tw_13)) Via.refl e37 F1 E (Or.inr ⟨(hw _ tw_14), rfl, hnm⟩) (hw _ tw_6) (ty := (.object "java/lang/String")) (by decide) rfl rfl N0 gx  d2_50 rfl (fun T40 h40 L40 X40 e40 W40 N40 => ?_)
  have F40 := F1.same W40
  refine own_aloadN X40 hx hby d2_53 rfl rfl rfl ?_
  refine own_aloadN X40 hx hby d2_54 rfl rfl rfl ?_
  refine own_ifnonnullYes X40 hx hby d2_55 (pcY := 62) (by decide) ?_
  refine own_aloadN X40 hx hby d2_62 rfl rfl rfl ?_
  have f41 := (V2.other W40 (Ne.symm n02))
  have f42 := (E2.wr W40)
  have f44 := (O.wr W40 gx)
  refine own_clone X40 hx hby hZ hown (hw _ tw_15) (hw _ tw_16) (hw _ tw_20) (hw _ tw_18) (hw _ tw_19) (hw _ tw_21) e40 f41 f42 (by rw [hml]; rfl) (by decide) (W := 1) 3 (Nat.le_refl _) (by decide) hcap (by decide) (by decide) d2_63 rfl (fun T43 h43 b43 X43 e43 g43 E43 V43 A43 => ?_)
  have ge_b43 : n0 ≤ b43 := own_ge f44 g43
  have f45 := ((Keep.refl h0 [x0]).wr W40 (Or.inl (by simp)))
  have sz_b43 : h0.size ≤ b43 := Nat.le_trans f45.1 (Nat.le_of_eq g43.symm)
  have ne_x0_b43 : x0 ≠ b43 := own_lt F40.lt g43
  have ne_x2_b43 : x2 ≠ b43 := own_lt f41.lt g43
  have f46 := (V4.other W40 (Ne.symm n04))
  have ne_x4_b43 : x4 ≠ b43 := own_lt f46.lt g43
  refine own_checkcast X43 hx hby hZ hown (hw _ tw_22) e43 (Ins.self A43) d2_66 rfl (fun T47 X47 e47 => ?_)
  have f48 := ((E.wr W40).ext E43)
  have f49 := ((F2.other W40 (Or.inr (slot_ne (Or.inr (hw _ tw_25)) (Or.inr (hw _ tw_14)) (by decide) (t := (.array .byte)) (t' := (.object "java/lang/String")) (by decide) (by decide)))).ext E43)
  refine own_putfield X47 hx hby hZ hown (host := "") (Or.inl (hw _ tw_24)) Via.refl e47 f49 f48 (Or.inr ⟨(hw _ tw_25), rfl, hnm⟩) (hw _ tw_6) (ty := (.array .byte)) (by decide) rfl rfl N40 gx  d2_69 rfl (fun T50 h50 L50 X50 e50 W50 N50 => ?_)
  have F50 := f49.same W50
  refine own_aloadN X50 hx hby d2_72 rfl rfl rfl ?_
  refine own_lloadN X50 hx hby d2_73 rfl rfl ?_
  have f51 := (f48.wr W50)
  have f52 := (((F3.other W40 (Or.inr (slot_ne (Or.inr (hw _ tw_27)) (Or.inr (hw _ tw_14)) (by decide) (t := .long) (t' := (.object "java/lang/String")) (by decide) (by decide)))).ext E43).other W50 (Or.inr (slot_ne (Or.inr (hw _ tw_27)) (Or.inr (hw _ tw_25)) (by decide) (t := .long) (t' := (.array .byte)) (by decide) (by decide))))
  refine own_putfield X50 hx hby hZ hown (host := "") (Or.inl (hw _ tw_26)) Via.refl e50 f52 f51 (Or.inr ⟨(hw _ tw_27), rfl, hnm⟩) (hw _ tw_6) (ty := .long) (by decide) rfl rfl N50 gx  d2_74 rfl (fun T53 h53 L53 X53 e53 W53 N53 => ?_)
  have F53 := f52.same W53
  refine own_aloadN X53 hx hby d2_77 rfl rfl rfl ?_
  refine own_aload X53 hx hby d2_78 rfl rfl rfl ?_
  have f54 := (((f46.ext E43).other W50 (Ne.symm n04)).other W53 (Ne.symm n04))
  have f55 := ((((E4.wr W40).ext E43).wr W50).wr W53)
  have f57 := (((f44.ext E43).wr W50 gx).wr W53 gx)
  refine own_clone X53 hx hby hZ hown (hw _ tw_15) (hw _ tw_16) (hw _ tw_20) (hw _ tw_18) (hw _ tw_19) (hw _ tw_21) e53 f54 f55 (by rw [hml]; rfl) (by decide) (W := 1) 16 (Nat.le_refl _) (by decide) (by decide) (by decide) (by decide) d2_80 rfl (fun T56 h56 b56 X56 e56 g56 E56 V56 A56 => ?_)
  have ge_b56 : n0 ≤ b56 := own_ge f57 g56
  have f58 := (((f45.ext E43).wr W50 (Or.inl (by simp))).wr W53 (Or.inl (by simp)))
  have sz_b56 : h0.size ≤ b56 := Nat.le_trans f58.1 (Nat.le_of_eq g56.symm)
  have ne_x0_b56 : x0 ≠ b56 := own_lt F53.lt g56
  have ne_x4_b56 : x4 ≠ b56 := own_lt f54.lt g56
  have f59 := ((V43.other W50 (Ne.symm ne_x0_b43)).other W53 (Ne.symm ne_x0_b43))
  have ne_b43_b56 : b43 ≠ b56 := own_lt f59.lt g56
  have f60 := (((f41.ext E43).other W50 (Ne.symm n02)).other W53 (Ne.symm n02))
  have ne_x2_b56 : x2 ≠ b56 := own_lt f60.lt g56
  refine own_checkcast X56 hx hby hZ hown (hw _ tw_22) e56 (Ins.self A56) d2_83 rfl (fun T61 X61 e61 => ?_)
  have f62 := ((f51.wr W53).ext E56)
  have f63 := (((((F4.other W40 (Or.inr (slot_ne (Or.inr (hw _ tw_29)) (Or.inr (hw _ tw_14)) (by decide) (t := (.array .byte)) (t' := (.object "java/lang/String")) (by decide) (by decide)))).ext E43).other W50 (Or.inr (slot_ne (Or.inr (hw _ tw_29)) (Or.inr (hw _ tw_25)) (by decide) (t := (.array .byte)) (t' := (.array .byte)) (by decide) (by decide)))).other W53 (Or.inr (slot_ne (Or.inr (hw _ tw_29)) (Or.inr (hw _ tw_27)) (by decide) (t := (.array .byte)) (t' := .long) (by decide) (by decide)))).ext E56)
  refine own_putfield X61 hx hby hZ hown (host := "") (Or.inl (hw _ tw_28)) Via.refl e61 f63 f62 (Or.inr ⟨(hw _ tw_29), rfl, hnm⟩) (hw _ tw_6) (ty := (.array .byte)) (by decide) rfl rfl N53 gx  d2_86 rfl (fun T64 h64 L64 X64 e64 W64 N64 => ?_)
  have F64 := f63.same W64
  refine own_retV X64 hx hby hret hlk d2_89 (by decide) (by decide) ?_
  have f65 := (((F50.other W53 (Or.inr (slot_ne (Or.inr (hw _ tw_25)) (Or.inr (hw _ tw_27)) (by decide) (t := (.array .byte)) (t' := .long) (by decide) (by decide)))).ext E56).other W64 (Or.inr (slot_ne (Or.inr (hw _ tw_25)) (Or.inr (hw _ tw_29)) (by decide) (t := (.array .byte)) (t' := (.array .byte)) (by decide) (by decide))))
  have f66 := ((f58.ext E56).wr W64 (Or.inl (by simp)))
  have f67 := ((f59.ext E56).other W64 (Ne.symm ne_x0_b43))
  have f68 := ((((A43.wr W50).wr W53).ext E56).wr W64)
  rw [e64]
  exact ⟨rfl, N64, f66, b43, ge_b43, sz_b43, f65, f67, f68⟩
set_option maxRecDepth 65536 in
set_option maxHeartbeats 40000000 in
theorem rm2_b (l : Launch) (Z : State) (a0 : Array Value) (hw : ∀ d ∈ tables_1, d.before a0 Z = true) (x0 : Addr) (x1 : Addr) (x3 : Int64) (x4 : Addr) (h0 : Heap) (n0 : Nat) (O : Old Z n0 h0) (gx : n0 ≤ x0) (E : Exa Z h0 x0 "com/example/lyrebird/lyrebird/content/Content") (F1 : Fld Z h0 x0 "com/example/lyrebird/lyrebird/content/Content" "file" "Ljava/lang/String;" .null) (F2 : Fld Z h0 x0 "com/example/lyrebird/lyrebird/content/Content" "bytes" "[B" .null) (F3 : Fld Z h0 x0 "com/example/lyrebird/lyrebird/content/Content" "length" "J" (.long (0 : Int64))) (F4 : Fld Z h0 x0 "com/example/lyrebird/lyrebird/content/Content" "md5" "[B" .null) (hl : 0 ≤ x3.toInt) {k4 : ClassId} {vs4 : List Value} (V4 : Arv Z h0 x4 k4 .byte (16 : Int32) vs4 (.int 0)) (E4 : Exa Z h0 x4 "[B") (n04 : x0 ≠ x4) :
    OwnMet l Z (⟨"com/example/lyrebird/lyrebird/content/Content", "<init>", "(Ljava/lang/String;[BJ[B)V"⟩ : MethodName) prog_2_method_2_code 6 none [] ({ frames := 1, cells := 1, slots := 16, locals := 16 } : Room) #[(.ref x0), (.ref x1), .null, (.long x3), (.ref x4)] h0 (fun v h L => v = none ∧ Fr n0 L ∧ Keep h0 h [x0] ∧ Fld Z h x0 "com/example/lyrebird/lyrebird/content/Content" "bytes" "[B" .null) := by
  refine own_body (plainFor_of_name pn_4) (fun m => ef_2_b m x0 x1 x3 x4) ?_
  intro p e s m below meth c s₁ X0 hx hby hml hown hnm hret hlk hZ e0
  replace hown : s.vm.findClass "com/example/lyrebird/lyrebird/content/Content" = some m.cls := hown
  replace hml : c.maxLocals = 6 := hml
  have N0 := Fr.nil n0
  show Ends p.tables e below _ (s₁.setTop (mkF m 0 #[.val (.ref x0), .val (.ref x1), .val .null, .val (.long x3), .second, .val (.ref x4)] []))
  refine own_aloadN X0 hx hby d2_0 rfl rfl rfl ?_
  refine own_initO X0 hx hby hZ hown (hw _ tw_10) (hw _ tw_11) (hw _ tw_12) e0 (by rw [hml]; rfl) (by decide) (W := 0) (Nat.le_refl _) (by decide) d2_1 rfl (fun T69 X69 e69 => ?_)
  refine own_lloadN X69 hx hby d2_4 rfl rfl ?_
  refine own_lconst X69 hx hby d2_5 rfl (0 : Int64) rfl ?_
  refine own_lcmp_ge X69 hx hby d2_6 d2_7 (pcY := 24) (pcN := 10) (by decide) rfl (fun (hc70 : 0 ≤ x3.toInt) => ?_) (fun (hc70 : x3.toInt < 0) => False.elim (by omega))
  refine own_aload X69 hx hby d2_24 rfl rfl rfl ?_
  refine own_arraylength X69 hx hby hZ e69 V4 d2_26 rfl ?_
  refine own_bipush X69 hx hby d2_27 rfl (16 : Int32) rfl ?_
  refine own_icmp_eq X69 hx hby d2_29 (pcY := 48) (pcN := 32) (by decide) rfl (fun (hc71 : (16 : Int32) = (16 : Int32)) => ?_) (fun (hc71 : ¬ (16 : Int32) = (16 : Int32)) => False.elim (by exact absurd hc71 (by decide)))
  refine own_aloadN X69 hx hby d2_48 rfl rfl rfl ?_
  refine own_aloadN X69 hx hby d2_49 rfl rfl rfl ?_
  refine own_putfield X69 hx hby hZ hown (host := "") (Or.inl (hw _ tw_13)) Via.refl e69 F1 E (Or.inr ⟨(hw _ tw_14), rfl, hnm⟩) (hw _ tw_6) (ty := (.object "java/lang/String")) (by decide) rfl rfl N0 gx  d2_50 rfl (fun T72 h72 L72 X72 e72 W72 N72 => ?_)
  have F72 := F1.same W72
  refine own_aloadN X72 hx hby d2_53 rfl rfl rfl ?_
  refine own_aloadN X72 hx hby d2_54 rfl rfl rfl ?_
  refine own_ifnonnullNo X72 hx hby d2_55 rfl ?_
  refine own_aconstNull X72 hx hby d2_58 rfl ?_
  refine own_goto X72 hx hby d2_59 (pc' := 69) (by decide) ?_
  have f73 := (E.wr W72)
  have f74 := (F2.other W72 (Or.inr (slot_ne (Or.inr (hw _ tw_25)) (Or.inr (hw _ tw_14)) (by decide) (t := (.array .byte)) (t' := (.object "java/lang/String")) (by decide) (by decide))))
  refine own_putfield X72 hx hby hZ hown (host := "") (Or.inl (hw _ tw_24)) Via.refl e72 f74 f73 (Or.inr ⟨(hw _ tw_25), rfl, hnm⟩) (hw _ tw_6) (ty := (.array .byte)) (by decide) rfl rfl N72 gx  d2_69 rfl (fun T75 h75 L75 X75 e75 W75 N75 => ?_)
  have F75 := f74.same W75
  refine own_aloadN X75 hx hby d2_72 rfl rfl rfl ?_
  refine own_lloadN X75 hx hby d2_73 rfl rfl ?_
  have f76 := (f73.wr W75)
  have f77 := ((F3.other W72 (Or.inr (slot_ne (Or.inr (hw _ tw_27)) (Or.inr (hw _ tw_14)) (by decide) (t := .long) (t' := (.object "java/lang/String")) (by decide) (by decide)))).other W75 (Or.inr (slot_ne (Or.inr (hw _ tw_27)) (Or.inr (hw _ tw_25)) (by decide) (t := .long) (t' := (.array .byte)) (by decide) (by decide))))
  refine own_putfield X75 hx hby hZ hown (host := "") (Or.inl (hw _ tw_26)) Via.refl e75 f77 f76 (Or.inr ⟨(hw _ tw_27), rfl, hnm⟩) (hw _ tw_6) (ty := .long) (by decide) rfl rfl N75 gx  d2_74 rfl (fun T78 h78 L78 X78 e78 W78 N78 => ?_)
  have F78 := f77.same W78
  refine own_aloadN X78 hx hby d2_77 rfl rfl rfl ?_
  refine own_aload X78 hx hby d2_78 rfl rfl rfl ?_
  have f79 := (((V4.other W72 (Ne.symm n04)).other W75 (Ne.symm n04)).other W78 (Ne.symm n04))
  have f80 := (((E4.wr W72).wr W75).wr W78)
  have f82 := (((O.wr W72 gx).wr W75 gx).wr W78 gx)
  refine own_clone X78 hx hby hZ hown (hw _ tw_15) (hw _ tw_16) (hw _ tw_20) (hw _ tw_18) (hw _ tw_19) (hw _ tw_21) e78 f79 f80 (by rw [hml]; rfl) (by decide) (W := 1) 16 (Nat.le_refl _) (by decide) (by decide) (by decide) (by decide) d2_80 rfl (fun T81 h81 b81 X81 e81 g81 E81 V81 A81 => ?_)
  have ge_b81 : n0 ≤ b81 := own_ge f82 g81
  have f83 := ((((Keep.refl h0 [x0]).wr W72 (Or.inl (by simp))).wr W75 (Or.inl (by simp))).wr W78 (Or.inl (by simp)))
  have sz_b81 : h0.size ≤ b81 := Nat.le_trans f83.1 (Nat.le_of_eq g81.symm)
  have ne_x0_b81 : x0 ≠ b81 := own_lt F78.lt g81
  have ne_x4_b81 : x4 ≠ b81 := own_lt f79.lt g81
  refine own_checkcast X81 hx hby hZ hown (hw _ tw_22) e81 (Ins.self A81) d2_83 rfl (fun T84 X84 e84 => ?_)
  have f85 := ((f76.wr W78).ext E81)
  have f86 := ((((F4.other W72 (Or.inr (slot_ne (Or.inr (hw _ tw_29)) (Or.inr (hw _ tw_14)) (by decide) (t := (.array .byte)) (t' := (.object "java/lang/String")) (by decide) (by decide)))).other W75 (Or.inr (slot_ne (Or.inr (hw _ tw_29)) (Or.inr (hw _ tw_25)) (by decide) (t := (.array .byte)) (t' := (.array .byte)) (by decide) (by decide)))).other W78 (Or.inr (slot_ne (Or.inr (hw _ tw_29)) (Or.inr (hw _ tw_27)) (by decide) (t := (.array .byte)) (t' := .long) (by decide) (by decide)))).ext E81)
  refine own_putfield X84 hx hby hZ hown (host := "") (Or.inl (hw _ tw_28)) Via.refl e84 f86 f85 (Or.inr ⟨(hw _ tw_29), rfl, hnm⟩) (hw _ tw_6) (ty := (.array .byte)) (by decide) rfl rfl N78 gx  d2_86 rfl (fun T87 h87 L87 X87 e87 W87 N87 => ?_)
  have F87 := f86.same W87
  refine own_retV X87 hx hby hret hlk d2_89 (by decide) (by decide) ?_
  have f88 := (((F75.other W78 (Or.inr (slot_ne (Or.inr (hw _ tw_25)) (Or.inr (hw _ tw_27)) (by decide) (t := (.array .byte)) (t' := .long) (by decide) (by decide)))).ext E81).other W87 (Or.inr (slot_ne (Or.inr (hw _ tw_25)) (Or.inr (hw _ tw_29)) (by decide) (t := (.array .byte)) (t' := (.array .byte)) (by decide) (by decide))))
  have f89 := ((f83.ext E81).wr W87 (Or.inl (by simp)))
  rw [e87]
  exact ⟨rfl, N87, f89, f88⟩
set_option maxRecDepth 65536 in
set_option maxHeartbeats 40000000 in
theorem rm1 (l : Launch) (Z : State) (a0 : Array Value) (hw : ∀ d ∈ tables_1, d.before a0 Z = true) (x0 : Addr) (x1 : Addr) (h0 : Heap) (n0 : Nat) (O : Old Z n0 h0) {k4 : ClassId} {vs4 : List Value} (V4 : Arv Z h0 x1 k4 .byte (16 : Int32) vs4 (.int 0)) (E4 : Exa Z h0 x1 "[B") {k2 : ClassId} {nn : Int32} {vs2 : List Value} (V2 : Arv Z h0 x0 k2 .byte nn vs2 (.int 0)) (E2 : Exa Z h0 x0 "[B") (hcap : nn.toNatClampNeg ≤ 3) (hnn : 0 ≤ nn.toInt) :
    OwnMet l Z (⟨"com/example/lyrebird/lyrebird/content/Content", "inline", "([B[B)Lcom/example/lyrebird/lyrebird/content/Content;"⟩ : MethodName) prog_2_method_3_code 2 (some (.object "com/example/lyrebird/lyrebird/content/Content")) [] ({ frames := 2, cells := 3, slots := 23, locals := 35 } : Room) #[(.ref x0), (.ref x1)] h0 (fun v h L => ∃ b y, v = some (.ref b) ∧ Fr n0 L ∧ Keep h0 h [] ∧ n0 ≤ b ∧ h0.size ≤ b ∧ Exa Z h b "com/example/lyrebird/lyrebird/content/Content" ∧ n0 ≤ y ∧ h0.size ≤ y ∧ Fld Z h b "com/example/lyrebird/lyrebird/content/Content" "bytes" "[B" (.ref y) ∧ Arv Z h y k2 .byte nn vs2 (.int 0) ∧ Exa Z h y "[B" ∧ b ≠ y) := by
  refine own_body (plainFor_of_name pn_4) (fun m => ef_1 m x0 x1) ?_
  intro p e s m below meth c s₁ X0 hx hby hml hown hnm hret hlk hZ e0
  replace hown : s.vm.findClass "com/example/lyrebird/lyrebird/content/Content" = some m.cls := hown
  replace hml : c.maxLocals = 2 := hml
  have N0 := Fr.nil n0
  show Ends p.tables e below _ (s₁.setTop (mkF m 0 #[.val (.ref x0), .val (.ref x1)] []))
  refine own_new X0 hx hby hZ hown (hw _ tw_5) (hw _ tw_6) (hw _ tw_3) e0 (by decide) (by decide) d1_0 rfl (fun T90 h90 b90 X90 e90 g90 E90 A90 D90 => ?_)
  have ge_b90 : n0 ≤ b90 := own_ge O g90
  have sz_b90 : h0.size ≤ b90 := Nat.le_trans (Keep.refl h0 []).1 (Nat.le_of_eq g90.symm)
  have ne_x0_b90 : x0 ≠ b90 := own_lt V2.lt g90
  have ne_x1_b90 : x1 ≠ b90 := own_lt V4.lt g90
  have F90_file : Fld Z h90 b90 "com/example/lyrebird/lyrebird/content/Content" "file" "Ljava/lang/String;" .null := D90 (Or.inr (hw _ tw_14)) (ty := (.object "java/lang/String")) (by decide)
  have F90_bytes : Fld Z h90 b90 "com/example/lyrebird/lyrebird/content/Content" "bytes" "[B" .null := D90 (Or.inr (hw _ tw_25)) (ty := (.array .byte)) (by decide)
  have F90_length : Fld Z h90 b90 "com/example/lyrebird/lyrebird/content/Content" "length" "J" (.long (0 : Int64)) := D90 (Or.inr (hw _ tw_27)) (ty := .long) (by decide)
  have F90_md5 : Fld Z h90 b90 "com/example/lyrebird/lyrebird/content/Content" "md5" "[B" .null := D90 (Or.inr (hw _ tw_29)) (ty := (.array .byte)) (by decide)
  refine own_dup X90 hx hby d1_3 rfl rfl ?_
  refine own_aconstNull X90 hx hby d1_4 rfl ?_
  refine own_aloadN X90 hx hby d1_5 rfl rfl rfl ?_
  refine own_aloadN X90 hx hby d1_6 rfl rfl rfl ?_
  have f91 := (V2.ext E90)
  refine own_arraylength X90 hx hby hZ e90 f91 d1_7 rfl ?_
  refine own_i2l X90 hx hby d1_8 rfl ?_
  refine own_aloadN X90 hx hby d1_9 rfl rfl rfl ?_
  have f93 := (V4.ext E90)
  have f94 := (E4.ext E90)
  have f95 := ((Keep.refl h0 []).ext E90)
  have f96 := (O.ext E90)
  have f97 := (E2.ext E90)
  refine own_special X90 hx hby hZ (a := b90) (argsL := [.null, (.ref x0), (.long nn.toInt64), (.ref x1)]) (rest := [(.ref b90)]) hown rfl (hw _ tw_7) (hw _ tw_8) (hw _ tw_3) (hw _ tw_9) (by decide) (rm2_a l Z a0 hw b90 x0 nn.toInt64 x1 h90 n0 f96 ge_b90 A90 F90_file F90_bytes F90_length F90_md5 (by rw [c_i2l]; exact hnn) f93 f94 (Ne.symm ne_x1_b90) f91 f97 (Ne.symm ne_x0_b90) hcap) e90 (by rw [hml]; rfl) pd_5 rfl (by decide) (W := 1) (Nat.le_refl _) (by decide) (by decide) (by decide) d1_10 rfl rfl (fun v92 T92 L92 X92 hQ92 => ?_)
  obtain ⟨rfl, N92q, K92, b92, gq92, sq92, Fb92, V92, A92⟩ := hQ92
  have ge_b92 := gq92
  have sz_b92 : h0.size ≤ b92 := Nat.le_trans f95.1 sq92
  show Ends p.tables e below _ (T92.setTop (mkF m 13 #[.val (.ref x0), .val (.ref x1)] [(.ref b90)]))
  refine own_ret X92 hx hby hret hlk d1_13 (.ref b90) rfl (Or.inr (Or.inr ⟨rfl, rfl, rfl⟩)) (by decide) (by decide) ?_
  have f98 := (f95.trans K92 (allS (Or.inr sz_b90) all0))
  have f99 := (A90.keep K92)
  exact ⟨b90, b92, rfl, (Fr.app N0 N92q), f98, ge_b90, sz_b90, f99, ge_b92, sz_b92, Fb92, V92, A92, (Nat.ne_of_lt (Nat.lt_of_lt_of_le A90.lt sq92))⟩
set_option maxRecDepth 65536 in
set_option maxHeartbeats 40000000 in
theorem rm4_a (l : Launch) (Z : State) (a0 : Array Value) (hw : ∀ d ∈ tables_1, d.before a0 Z = true) (x0 : Addr) (h0 : Heap) (n0 : Nat) (O : Old Z n0 h0) {y : Addr} {k2 : ClassId} {nn : Int32} {vs2 : List Value} (F : Fld Z h0 x0 "com/example/lyrebird/lyrebird/content/Content" "bytes" "[B" (.ref y)) (V2 : Arv Z h0 y k2 .byte nn vs2 (.int 0)) (E2 : Exa Z h0 y "[B") (hcap : nn.toNatClampNeg ≤ 3) :
    OwnMet l Z (⟨"com/example/lyrebird/lyrebird/content/Content", "bytes", "()Ljava/util/Optional;"⟩ : MethodName) prog_2_method_5_code 1 (some (.object "java/util/Optional")) [] ({ frames := 3, cells := 2, slots := 4, locals := 39 } : Room) #[(.ref x0)] h0 (fun v h L => ∃ b q, v = some (.ref b) ∧ Fr n0 L ∧ Keep h0 h [] ∧ n0 ≤ b ∧ h0.size ≤ b ∧ Exa Z h b "java/util/Optional" ∧ n0 ≤ q ∧ h0.size ≤ q ∧ Fld Z h b "java/util/Optional" "value" "Ljava/lang/Object;" (.ref q) ∧ Arv Z h q k2 .byte nn vs2 (.int 0) ∧ Exa Z h q "[B") := by
  refine own_body (plainFor_of_name pn_4) (fun m => ef_4_a m x0) ?_
  intro p e s m below meth c s₁ X0 hx hby hml hown hnm hret hlk hZ e0
  replace hown : s.vm.findClass "com/example/lyrebird/lyrebird/content/Content" = some m.cls := hown
  replace hml : c.maxLocals = 1 := hml
  have N0 := Fr.nil n0
  show Ends p.tables e below _ (s₁.setTop (mkF m 0 #[.val (.ref x0)] []))
  refine own_aloadN X0 hx hby d4_0 rfl rfl rfl ?_
  refine own_getfield X0 hx hby hZ hown (host := "") (Or.inl (hw _ tw_24)) Via.refl e0 F d4_1 rfl (fun T100 X100 e100 => ?_)
  refine own_ifnonnullYes X100 hx hby d4_4 (pcY := 13) (by decide) ?_
  refine own_aloadN X100 hx hby d4_13 rfl rfl rfl ?_
  refine own_getfield X100 hx hby hZ hown (host := "") (Or.inl (hw _ tw_24)) Via.refl e100 F d4_14 rfl (fun T101 X101 e101 => ?_)
  refine own_clone X101 hx hby hZ hown (hw _ tw_15) (hw _ tw_16) (hw _ tw_20) (hw _ tw_18) (hw _ tw_19) (hw _ tw_21) e101 V2 E2 (by rw [hml]; rfl) (by decide) (W := 0) 3 (Nat.le_refl _) (by decide) hcap (by decide) (by decide) d4_17 rfl (fun T102 h102 b102 X102 e102 g102 E102 V102 A102 => ?_)
  have ge_b102 : n0 ≤ b102 := own_ge O g102
  have sz_b102 : h0.size ≤ b102 := Nat.le_trans (Keep.refl h0 []).1 (Nat.le_of_eq g102.symm)
  have ne_x0_b102 : x0 ≠ b102 := own_lt F.lt g102
  have ne_y_b102 : y ≠ b102 := own_lt V2.lt g102
  refine own_checkcast X102 hx hby hZ hown (hw _ tw_22) e102 (Ins.self A102) d4_20 rfl (fun T103 X103 e103 => ?_)
  have f105 := ((Keep.refl h0 []).ext E102)
  have f106 := (O.ext E102)
  refine own_static X103 hx hby hZ (argsL := [(.ref b102)]) (rest := []) hown (hw _ tw_35) (hw _ tw_36) (hw _ tw_37) (hw _ tw_38) (by decide) (rm5 l Z a0 hw b102 h102 n0 f106) e103 (by rw [hml]; rfl) pd_6 rfl (by decide) (W := 0) (Nat.le_refl _) (by decide) (by decide) (by decide) d4_23 rfl rfl (fun v104 T104 L104 X104 hQ104 => ?_)
  obtain ⟨b104, rfl, N104q, K104, gq104, sq104, A104, F104⟩ := hQ104
  have ge_b104 := gq104
  have sz_b104 : h0.size ≤ b104 := Nat.le_trans f105.1 sq104
  show Ends p.tables e below _ (T104.setTop (mkF m 26 #[.val (.ref x0)] [(.ref b104)]))
  refine own_ret X104 hx hby hret hlk d4_26 (.ref b104) rfl (Or.inr (Or.inr ⟨rfl, rfl, rfl⟩)) (by decide) (by decide) ?_
  have f107 := (f105.trans K104 all0)
  have f108 := (V102.keep K104 nin0)
  have f109 := (A102.keep K104)
  exact ⟨b104, b102, rfl, (Fr.app N0 N104q), f107, ge_b104, sz_b104, A104, ge_b102, sz_b102, F104, f108, f109⟩
set_option maxRecDepth 65536 in
set_option maxHeartbeats 40000000 in
theorem rm4_b (l : Launch) (Z : State) (a0 : Array Value) (hw : ∀ d ∈ tables_1, d.before a0 Z = true) (x0 : Addr) (h0 : Heap) (n0 : Nat) {z : Int32} {aE : Addr} (G : OwnG Z z aE) (O : Old Z n0 h0) (F : Fld Z h0 x0 "com/example/lyrebird/lyrebird/content/Content" "bytes" "[B" .null) :
    OwnMet l Z (⟨"com/example/lyrebird/lyrebird/content/Content", "bytes", "()Ljava/util/Optional;"⟩ : MethodName) prog_2_method_5_code 1 (some (.object "java/util/Optional")) [] ({ frames := 1, cells := 0, slots := 0, locals := 12 } : Room) #[(.ref x0)] h0 (fun v h L => v = some (.ref aE) ∧ L = [] ∧ h = h0) := by
  refine own_body (plainFor_of_name pn_4) (fun m => ef_4_b m x0) ?_
  intro p e s m below meth c s₁ X0 hx hby hml hown hnm hret hlk hZ e0
  replace hown : s.vm.findClass "com/example/lyrebird/lyrebird/content/Content" = some m.cls := hown
  replace hml : c.maxLocals = 1 := hml
  have N0 := Fr.nil n0
  show Ends p.tables e below _ (s₁.setTop (mkF m 0 #[.val (.ref x0)] []))
  refine own_aloadN X0 hx hby d4_0 rfl rfl rfl ?_
  refine own_getfield X0 hx hby hZ hown (host := "") (Or.inl (hw _ tw_24)) Via.refl e0 F d4_1 rfl (fun T110 X110 e110 => ?_)
  refine own_ifnonnullNo X110 hx hby d4_4 rfl ?_
  refine own_static X110 hx hby hZ (argsL := []) (rest := []) hown (hw _ tw_102) (hw _ tw_103) (hw _ tw_37) (hw _ tw_104) (by decide) (rm17 l Z a0 hw h0 G O.2) e110 (by rw [hml]; rfl) pd_7 rfl (by decide) (W := 0) (Nat.le_refl _) (by decide) (by decide) (by decide) d4_7 rfl rfl (fun v111 T111 L111 X111 hQ111 => ?_)
  obtain ⟨rfl, rfl, e111⟩ := hQ111
  show Ends p.tables e below _ (T111.setTop (mkF m 10 #[.val (.ref x0)] [(.ref aE)]))
  refine own_goto X111 hx hby d4_10 (pc' := 26) (by decide) ?_
  refine own_ret X111 hx hby hret hlk d4_26 (.ref aE) rfl (Or.inr (Or.inr ⟨rfl, rfl, rfl⟩)) (by decide) (by decide) ?_
  exact ⟨rfl, rfl, e111⟩
set_option maxRecDepth 65536 in
set_option maxHeartbeats 40000000 in
theorem rm10_0 (l : Launch) (Z : State) (a0 : Array Value) (hw : ∀ d ∈ tables_1, d.before a0 Z = true) (x0 : Addr) (x2 : Int32) (x3 : Int32) (x4 : Int32) (h0 : Heap) {kq : ClassId} (V : Arv Z h0 x0 kq .byte (0 : Int32) [] (.int 0)) :
    OwnMet l Z (⟨"com/example/lyrebird/lyrebird/content/ContentBytesPinLaw", "same", "([BIBBB)Z"⟩ : MethodName) method_3_code 5 (some .boolean) [] ({ frames := 0, cells := 0, slots := 0, locals := 0 } : Room) #[(.ref x0), (.int (0 : Int32)), (.int x2), (.int x3), (.int x4)] h0 (fun v h L => v = some (.int 1) ∧ L = [] ∧ h = h0) := by
  refine own_body (plainFor_of_name pn_5) (fun m => ef_10_0 m x0 x2 x3 x4) ?_
  intro p e s m below meth c s₁ X0 hx hby hml hown hnm hret hlk hZ e0
  replace hown : s.vm.findClass "com/example/lyrebird/lyrebird/content/ContentBytesPinLaw" = some m.cls := hown
  replace hml : c.maxLocals = 5 := hml
  show Ends p.tables e below _ (s₁.setTop (mkF m 0 #[.val (.ref x0), .val (.int (0 : Int32)), .val (.int x2), .val (.int x3), .val (.int x4)] []))
  refine own_aloadN X0 hx hby d10_0 rfl rfl rfl ?_
  refine own_arraylength X0 hx hby hZ e0 V d10_1 rfl ?_
  refine own_iloadN X0 hx hby d10_2 rfl rfl ?_
  refine own_icmp_eq X0 hx hby d10_3 (pcY := 8) (pcN := 6) (by decide) rfl (fun (hc112 : (0 : Int32) = (0 : Int32)) => ?_) (fun (hc112 : ¬ (0 : Int32) = (0 : Int32)) => False.elim (by exact absurd hc112 (by decide)))
  refine own_iloadN X0 hx hby d10_8 rfl rfl ?_
  refine own_iconst X0 hx hby d10_9 rfl (1 : Int32) rfl ?_
  refine own_icmp_lt X0 hx hby d10_10 (pcY := 22) (pcN := 13) (by decide) rfl (fun (hc113 : 0 < 1) => ?_) (fun (hc113 : 1 ≤ 0) => False.elim (by exact absurd hc113 (by decide)))
  refine own_iloadN X0 hx hby d10_22 rfl rfl ?_
  refine own_iconst X0 hx hby d10_23 rfl (2 : Int32) rfl ?_
  refine own_icmp_lt X0 hx hby d10_24 (pcY := 36) (pcN := 27) (by decide) rfl (fun (hc114 : 0 < 2) => ?_) (fun (hc114 : 2 ≤ 0) => False.elim (by exact absurd hc114 (by decide)))
  refine own_iloadN X0 hx hby d10_36 rfl rfl ?_
  refine own_iconst X0 hx hby d10_37 rfl (3 : Int32) rfl ?_
  refine own_icmp_lt X0 hx hby d10_38 (pcY := 51) (pcN := 41) (by decide) rfl (fun (hc115 : 0 < 3) => ?_) (fun (hc115 : 3 ≤ 0) => False.elim (by exact absurd hc115 (by decide)))
  refine own_iconst X0 hx hby d10_51 rfl (1 : Int32) rfl ?_
  refine own_ret X0 hx hby hret hlk d10_52 (.int (1 : Int32)) rfl (Or.inl ⟨rfl, by simp, _, rfl⟩) (by decide) (by decide) ?_
  exact ⟨rfl, rfl, e0⟩
set_option maxRecDepth 65536 in
set_option maxHeartbeats 40000000 in
theorem rm10_1 (l : Launch) (Z : State) (a0 : Array Value) (hw : ∀ d ∈ tables_1, d.before a0 Z = true) (x0 : Addr) (x2 : Int32) (x3 : Int32) (x4 : Int32) (h0 : Heap) {kq : ClassId} (V : Arv Z h0 x0 kq .byte (1 : Int32) [(.int x2)] (.int 0)) :
    OwnMet l Z (⟨"com/example/lyrebird/lyrebird/content/ContentBytesPinLaw", "same", "([BIBBB)Z"⟩ : MethodName) method_3_code 5 (some .boolean) [] ({ frames := 0, cells := 0, slots := 0, locals := 0 } : Room) #[(.ref x0), (.int (1 : Int32)), (.int x2), (.int x3), (.int x4)] h0 (fun v h L => v = some (.int 1) ∧ L = [] ∧ h = h0) := by
  refine own_body (plainFor_of_name pn_5) (fun m => ef_10_1 m x0 x2 x3 x4) ?_
  intro p e s m below meth c s₁ X0 hx hby hml hown hnm hret hlk hZ e0
  replace hown : s.vm.findClass "com/example/lyrebird/lyrebird/content/ContentBytesPinLaw" = some m.cls := hown
  replace hml : c.maxLocals = 5 := hml
  show Ends p.tables e below _ (s₁.setTop (mkF m 0 #[.val (.ref x0), .val (.int (1 : Int32)), .val (.int x2), .val (.int x3), .val (.int x4)] []))
  refine own_aloadN X0 hx hby d10_0 rfl rfl rfl ?_
  refine own_arraylength X0 hx hby hZ e0 V d10_1 rfl ?_
  refine own_iloadN X0 hx hby d10_2 rfl rfl ?_
  refine own_icmp_eq X0 hx hby d10_3 (pcY := 8) (pcN := 6) (by decide) rfl (fun (hc116 : (1 : Int32) = (1 : Int32)) => ?_) (fun (hc116 : ¬ (1 : Int32) = (1 : Int32)) => False.elim (by exact absurd hc116 (by decide)))
  refine own_iloadN X0 hx hby d10_8 rfl rfl ?_
  refine own_iconst X0 hx hby d10_9 rfl (1 : Int32) rfl ?_
  refine own_icmp_lt X0 hx hby d10_10 (pcY := 22) (pcN := 13) (by decide) rfl (fun (hc117 : 1 < 1) => False.elim (by exact absurd hc117 (by decide))) (fun (hc117 : 1 ≤ 1) => ?_)
  refine own_aloadN X0 hx hby d10_13 rfl rfl rfl ?_
  refine own_iconst X0 hx hby d10_14 rfl (0 : Int32) rfl ?_
  refine own_baload X0 hx hby hZ x2 e0 V (by decide) rfl d10_15 rfl ?_
  refine own_iloadN X0 hx hby d10_16 rfl rfl ?_
  refine own_icmp_eq X0 hx hby d10_17 (pcY := 22) (pcN := 20) (by decide) rfl (fun (hc118 : x2 = x2) => ?_) (fun (hc118 : ¬ x2 = x2) => False.elim (by exact hc118 rfl))
  refine own_iloadN X0 hx hby d10_22 rfl rfl ?_
  refine own_iconst X0 hx hby d10_23 rfl (2 : Int32) rfl ?_
  refine own_icmp_lt X0 hx hby d10_24 (pcY := 36) (pcN := 27) (by decide) rfl (fun (hc119 : 1 < 2) => ?_) (fun (hc119 : 2 ≤ 1) => False.elim (by exact absurd hc119 (by decide)))
  refine own_iloadN X0 hx hby d10_36 rfl rfl ?_
  refine own_iconst X0 hx hby d10_37 rfl (3 : Int32) rfl ?_
  refine own_icmp_lt X0 hx hby d10_38 (pcY := 51) (pcN := 41) (by decide) rfl (fun (hc120 : 1 < 3) => ?_) (fun (hc120 : 3 ≤ 1) => False.elim (by exact absurd hc120 (by decide)))
  refine own_iconst X0 hx hby d10_51 rfl (1 : Int32) rfl ?_
  refine own_ret X0 hx hby hret hlk d10_52 (.int (1 : Int32)) rfl (Or.inl ⟨rfl, by simp, _, rfl⟩) (by decide) (by decide) ?_
  exact ⟨rfl, rfl, e0⟩
set_option maxRecDepth 65536 in
set_option maxHeartbeats 40000000 in
theorem rm10_2 (l : Launch) (Z : State) (a0 : Array Value) (hw : ∀ d ∈ tables_1, d.before a0 Z = true) (x0 : Addr) (x2 : Int32) (x3 : Int32) (x4 : Int32) (h0 : Heap) {kq : ClassId} (V : Arv Z h0 x0 kq .byte (2 : Int32) [(.int x2), (.int x3)] (.int 0)) :
    OwnMet l Z (⟨"com/example/lyrebird/lyrebird/content/ContentBytesPinLaw", "same", "([BIBBB)Z"⟩ : MethodName) method_3_code 5 (some .boolean) [] ({ frames := 0, cells := 0, slots := 0, locals := 0 } : Room) #[(.ref x0), (.int (2 : Int32)), (.int x2), (.int x3), (.int x4)] h0 (fun v h L => v = some (.int 1) ∧ L = [] ∧ h = h0) := by
  refine own_body (plainFor_of_name pn_5) (fun m => ef_10_2 m x0 x2 x3 x4) ?_
  intro p e s m below meth c s₁ X0 hx hby hml hown hnm hret hlk hZ e0
  replace hown : s.vm.findClass "com/example/lyrebird/lyrebird/content/ContentBytesPinLaw" = some m.cls := hown
  replace hml : c.maxLocals = 5 := hml
  show Ends p.tables e below _ (s₁.setTop (mkF m 0 #[.val (.ref x0), .val (.int (2 : Int32)), .val (.int x2), .val (.int x3), .val (.int x4)] []))
  refine own_aloadN X0 hx hby d10_0 rfl rfl rfl ?_
  refine own_arraylength X0 hx hby hZ e0 V d10_1 rfl ?_
  refine own_iloadN X0 hx hby d10_2 rfl rfl ?_
  refine own_icmp_eq X0 hx hby d10_3 (pcY := 8) (pcN := 6) (by decide) rfl (fun (hc121 : (2 : Int32) = (2 : Int32)) => ?_) (fun (hc121 : ¬ (2 : Int32) = (2 : Int32)) => False.elim (by exact absurd hc121 (by decide)))
  refine own_iloadN X0 hx hby d10_8 rfl rfl ?_
  refine own_iconst X0 hx hby d10_9 rfl (1 : Int32) rfl ?_
  refine own_icmp_lt X0 hx hby d10_10 (pcY := 22) (pcN := 13) (by decide) rfl (fun (hc122 : 2 < 1) => False.elim (by exact absurd hc122 (by decide))) (fun (hc122 : 1 ≤ 2) => ?_)
  refine own_aloadN X0 hx hby d10_13 rfl rfl rfl ?_
  refine own_iconst X0 hx hby d10_14 rfl (0 : Int32) rfl ?_
  refine own_baload X0 hx hby hZ x2 e0 V (by decide) rfl d10_15 rfl ?_
  refine own_iloadN X0 hx hby d10_16 rfl rfl ?_
  refine own_icmp_eq X0 hx hby d10_17 (pcY := 22) (pcN := 20) (by decide) rfl (fun (hc123 : x2 = x2) => ?_) (fun (hc123 : ¬ x2 = x2) => False.elim (by exact hc123 rfl))
  refine own_iloadN X0 hx hby d10_22 rfl rfl ?_
  refine own_iconst X0 hx hby d10_23 rfl (2 : Int32) rfl ?_
  refine own_icmp_lt X0 hx hby d10_24 (pcY := 36) (pcN := 27) (by decide) rfl (fun (hc124 : 2 < 2) => False.elim (by exact absurd hc124 (by decide))) (fun (hc124 : 2 ≤ 2) => ?_)
  refine own_aloadN X0 hx hby d10_27 rfl rfl rfl ?_
  refine own_iconst X0 hx hby d10_28 rfl (1 : Int32) rfl ?_
  refine own_baload X0 hx hby hZ x3 e0 V (by decide) rfl d10_29 rfl ?_
  refine own_iloadN X0 hx hby d10_30 rfl rfl ?_
  refine own_icmp_eq X0 hx hby d10_31 (pcY := 36) (pcN := 34) (by decide) rfl (fun (hc125 : x3 = x3) => ?_) (fun (hc125 : ¬ x3 = x3) => False.elim (by exact hc125 rfl))
  refine own_iloadN X0 hx hby d10_36 rfl rfl ?_
  refine own_iconst X0 hx hby d10_37 rfl (3 : Int32) rfl ?_
  refine own_icmp_lt X0 hx hby d10_38 (pcY := 51) (pcN := 41) (by decide) rfl (fun (hc126 : 2 < 3) => ?_) (fun (hc126 : 3 ≤ 2) => False.elim (by exact absurd hc126 (by decide)))
  refine own_iconst X0 hx hby d10_51 rfl (1 : Int32) rfl ?_
  refine own_ret X0 hx hby hret hlk d10_52 (.int (1 : Int32)) rfl (Or.inl ⟨rfl, by simp, _, rfl⟩) (by decide) (by decide) ?_
  exact ⟨rfl, rfl, e0⟩
set_option maxRecDepth 65536 in
set_option maxHeartbeats 40000000 in
theorem rm10_3 (l : Launch) (Z : State) (a0 : Array Value) (hw : ∀ d ∈ tables_1, d.before a0 Z = true) (x0 : Addr) (x2 : Int32) (x3 : Int32) (x4 : Int32) (h0 : Heap) {kq : ClassId} (V : Arv Z h0 x0 kq .byte (3 : Int32) [(.int x2), (.int x3), (.int x4)] (.int 0)) :
    OwnMet l Z (⟨"com/example/lyrebird/lyrebird/content/ContentBytesPinLaw", "same", "([BIBBB)Z"⟩ : MethodName) method_3_code 5 (some .boolean) [] ({ frames := 0, cells := 0, slots := 0, locals := 0 } : Room) #[(.ref x0), (.int (3 : Int32)), (.int x2), (.int x3), (.int x4)] h0 (fun v h L => v = some (.int 1) ∧ L = [] ∧ h = h0) := by
  refine own_body (plainFor_of_name pn_5) (fun m => ef_10_3 m x0 x2 x3 x4) ?_
  intro p e s m below meth c s₁ X0 hx hby hml hown hnm hret hlk hZ e0
  replace hown : s.vm.findClass "com/example/lyrebird/lyrebird/content/ContentBytesPinLaw" = some m.cls := hown
  replace hml : c.maxLocals = 5 := hml
  show Ends p.tables e below _ (s₁.setTop (mkF m 0 #[.val (.ref x0), .val (.int (3 : Int32)), .val (.int x2), .val (.int x3), .val (.int x4)] []))
  refine own_aloadN X0 hx hby d10_0 rfl rfl rfl ?_
  refine own_arraylength X0 hx hby hZ e0 V d10_1 rfl ?_
  refine own_iloadN X0 hx hby d10_2 rfl rfl ?_
  refine own_icmp_eq X0 hx hby d10_3 (pcY := 8) (pcN := 6) (by decide) rfl (fun (hc127 : (3 : Int32) = (3 : Int32)) => ?_) (fun (hc127 : ¬ (3 : Int32) = (3 : Int32)) => False.elim (by exact absurd hc127 (by decide)))
  refine own_iloadN X0 hx hby d10_8 rfl rfl ?_
  refine own_iconst X0 hx hby d10_9 rfl (1 : Int32) rfl ?_
  refine own_icmp_lt X0 hx hby d10_10 (pcY := 22) (pcN := 13) (by decide) rfl (fun (hc128 : 3 < 1) => False.elim (by exact absurd hc128 (by decide))) (fun (hc128 : 1 ≤ 3) => ?_)
  refine own_aloadN X0 hx hby d10_13 rfl rfl rfl ?_
  refine own_iconst X0 hx hby d10_14 rfl (0 : Int32) rfl ?_
  refine own_baload X0 hx hby hZ x2 e0 V (by decide) rfl d10_15 rfl ?_
  refine own_iloadN X0 hx hby d10_16 rfl rfl ?_
  refine own_icmp_eq X0 hx hby d10_17 (pcY := 22) (pcN := 20) (by decide) rfl (fun (hc129 : x2 = x2) => ?_) (fun (hc129 : ¬ x2 = x2) => False.elim (by exact hc129 rfl))
  refine own_iloadN X0 hx hby d10_22 rfl rfl ?_
  refine own_iconst X0 hx hby d10_23 rfl (2 : Int32) rfl ?_
  refine own_icmp_lt X0 hx hby d10_24 (pcY := 36) (pcN := 27) (by decide) rfl (fun (hc130 : 3 < 2) => False.elim (by exact absurd hc130 (by decide))) (fun (hc130 : 2 ≤ 3) => ?_)
  refine own_aloadN X0 hx hby d10_27 rfl rfl rfl ?_
  refine own_iconst X0 hx hby d10_28 rfl (1 : Int32) rfl ?_
  refine own_baload X0 hx hby hZ x3 e0 V (by decide) rfl d10_29 rfl ?_
  refine own_iloadN X0 hx hby d10_30 rfl rfl ?_
  refine own_icmp_eq X0 hx hby d10_31 (pcY := 36) (pcN := 34) (by decide) rfl (fun (hc131 : x3 = x3) => ?_) (fun (hc131 : ¬ x3 = x3) => False.elim (by exact hc131 rfl))
  refine own_iloadN X0 hx hby d10_36 rfl rfl ?_
  refine own_iconst X0 hx hby d10_37 rfl (3 : Int32) rfl ?_
  refine own_icmp_lt X0 hx hby d10_38 (pcY := 51) (pcN := 41) (by decide) rfl (fun (hc132 : 3 < 3) => False.elim (by exact absurd hc132 (by decide))) (fun (hc132 : 3 ≤ 3) => ?_)
  refine own_aloadN X0 hx hby d10_41 rfl rfl rfl ?_
  refine own_iconst X0 hx hby d10_42 rfl (2 : Int32) rfl ?_
  refine own_baload X0 hx hby hZ x4 e0 V (by decide) rfl d10_43 rfl ?_
  refine own_iload X0 hx hby d10_44 rfl rfl ?_
  refine own_icmp_eq X0 hx hby d10_46 (pcY := 51) (pcN := 49) (by decide) rfl (fun (hc133 : x4 = x4) => ?_) (fun (hc133 : ¬ x4 = x4) => False.elim (by exact hc133 rfl))
  refine own_iconst X0 hx hby d10_51 rfl (1 : Int32) rfl ?_
  refine own_ret X0 hx hby hret hlk d10_52 (.int (1 : Int32)) rfl (Or.inl ⟨rfl, by simp, _, rfl⟩) (by decide) (by decide) ?_
  exact ⟨rfl, rfl, e0⟩
set_option maxRecDepth 65536 in
set_option maxHeartbeats 40000000 in
theorem rm15 (l : Launch) (Z : State) (a0 : Array Value) (hw : ∀ d ∈ tables_1, d.before a0 Z = true) (x0 : Addr) (x1 : Addr) (x2 : Int64) (x3 : Addr) (h0 : Heap) (n0 : Nat) (O : Old Z n0 h0) (gx : n0 ≤ x0) (E : Exa Z h0 x0 "com/example/lyrebird/lyrebird/content/Content") (F1 : Fld Z h0 x0 "com/example/lyrebird/lyrebird/content/Content" "file" "Ljava/lang/String;" .null) (F2 : Fld Z h0 x0 "com/example/lyrebird/lyrebird/content/Content" "bytes" "[B" .null) (F3 : Fld Z h0 x0 "com/example/lyrebird/lyrebird/content/Content" "length" "J" (.long (0 : Int64))) (F4 : Fld Z h0 x0 "com/example/lyrebird/lyrebird/content/Content" "md5" "[B" .null) (hl : 0 ≤ x2.toInt) (E1 : Exa Z h0 x1 "java/lang/String") {k4 : ClassId} {vs4 : List Value} (V4 : Arv Z h0 x3 k4 .byte (16 : Int32) vs4 (.int 0)) (E4 : Exa Z h0 x3 "[B") (n04 : x0 ≠ x3) :
    OwnMetW l Z (⟨"com/example/lyrebird/lyrebird/content/Content", "<init>", "(Ljava/lang/String;J[B)V"⟩ : MethodName) prog_2_method_1_code 5 none [] ({ frames := 2, cells := 3, slots := 28, locals := 34 } : Room) #[(.ref x0), (.ref x1), (.long x2), (.ref x3)] h0 (fun v h L => v = none ∧ Fr n0 L ∧ Keep h0 h [x0] ∧ Fld Z h x0 "com/example/lyrebird/lyrebird/content/Content" "bytes" "[B" .null) := by
  refine own_bodyW (plainFor_of_name pn_4) (fun m => ef_15 m x0 x1 x2 x3) ?_
  intro p e s m below meth c s₁ X0 hx hby hml hown hnm hret hlk hZ e0 eh hS
  replace hown : (s.setVm s.vm).vm.findClass "com/example/lyrebird/lyrebird/content/Content" = some m.cls := hown
  replace hml : c.maxLocals = 5 := hml
  have N0 := Fr.nil n0
  show Ends p.tables e below _ (s₁.setTop (mkF m 0 #[.val (.ref x0), .val (.ref x1), .val (.long x2), .second, .val (.ref x3)] []))
  refine own_aloadN X0 hx hby d15_0 rfl rfl rfl ?_
  refine own_aloadN X0 hx hby d15_1 rfl rfl rfl ?_
  refine own_ldcS X0 hx hby hZ hown (hw _ tw_95) (own_satoms hw) e0 hS (Nat.le_refl _) 8 (by decide) (by decide) (by decide) (by decide) d15_2 rfl (fun b134 T134 h134 k134 X134 e134 E134 hS hk134 hZ hown => ?_)
  refine own_static X134 hx hby hZ (argsL := [(.ref x1), (.ref b134)]) (rest := [(.ref x0)]) hown (hw _ tw_98) (hw _ tw_99) (hw _ tw_43) (hw _ tw_100) (by decide) (rm16 l Z a0 hw x1 b134 h134) e134 (by rw [hml]; rfl) pd_8 rfl (by decide) (W := 1) (Nat.le_refl _) (by decide) (by decide) (by decide) d15_4 rfl rfl (fun v135 T135 L135 X135 hQ135 => ?_)
  obtain ⟨rfl, rfl, e135⟩ := hQ135
  show Ends p.tables e below _ (T135.setTop (mkF m 7 #[.val (.ref x0), .val (.ref x1), .val (.long x2), .second, .val (.ref x3)] [(.ref x1), (.ref x0)]))
  have f136 := (E1.ext E134)
  refine own_checkcast X135 hx hby hZ hown (hw _ tw_101) e135 (Ins.self f136) d15_7 rfl (fun T137 X137 e137 => ?_)
  refine own_aconstNull X137 hx hby d15_10 rfl ?_
  refine own_lloadN X137 hx hby d15_11 rfl rfl ?_
  refine own_aload X137 hx hby d15_12 rfl rfl rfl ?_
  have f139 := (F1.ext E134)
  have f140 := (F2.ext E134)
  have f141 := (F3.ext E134)
  have f142 := (F4.ext E134)
  have f143 := (V4.ext E134)
  have f144 := (E4.ext E134)
  have f145 := (O.ext E134)
  have f146 := (E.ext E134)
  refine own_special X137 hx hby hZ (a := x0) (argsL := [(.ref x1), .null, (.long x2), (.ref x3)]) (rest := []) hown rfl (hw _ tw_7) (hw _ tw_8) (hw _ tw_3) (hw _ tw_9) (by decide) (rm2_b l Z a0 hw x0 x1 x2 x3 h134 n0 f145 gx f146 f139 f140 f141 f142 hl f143 f144 n04) e137 (by rw [hml]; rfl) pd_5 rfl (by decide) (W := 0) (Nat.le_refl _) (by decide) (by decide) (by decide) d15_14 rfl rfl (fun v138 T138 L138 X138 hQ138 => ?_)
  obtain ⟨rfl, N138q, K138, Fb138⟩ := hQ138
  show Ends p.tables e below _ (T138.setTop (mkF m 17 #[.val (.ref x0), .val (.ref x1), .val (.long x2), .second, .val (.ref x3)] []))
  have f147 := (Nat.le_trans hk134 K138.1)
  refine own_retVW X138 hx hby hret hlk d15_17 hS (by rw [show T138.heap = _ from rfl]; exact f147) (by decide) (by decide) ?_
  have f148 := (((Keep.refl h0 [x0]).ext E134).trans K138 (allS (Or.inl (by simp)) all0))
  exact ⟨rfl, (Fr.app (Fr.app N0 (Fr.nil _)) N138q), f148, Fb138⟩
set_option maxRecDepth 65536 in
set_option maxHeartbeats 40000000 in
theorem rm0 (l : Launch) (Z : State) (a0 : Array Value) (hw : ∀ d ∈ tables_1, d.before a0 Z = true) (x0 : Int32) (x1 : Int32) (x2 : Int64) (x3 : Int32) (x4 : Int64) (h0 : Heap) (n0 : Nat) {z : Int32} {aE : Addr} (G : OwnG Z z aE) (O : Old Z n0 h0) :
    OwnMetW l Z x code maxLocals ret tables_1 room_1 #[(.int x0), (.int x1), (.long x2), (.int x3), (.long x4)] h0 (fun v h L => v = some (.int 1) ∧ Fr n0 L) := by
  refine own_bodyW (plainFor_of_name pn_5) (fun m => ef_0 m x0 x1 x2 x3 x4) ?_
  intro p e s m below meth c s₁ X0 hx hby hml hown hnm hret hlk hZ e0 eh hS
  replace hown : (s.setVm s.vm).vm.findClass "com/example/lyrebird/lyrebird/content/ContentBytesPinLaw" = some m.cls := hown
  replace hml : c.maxLocals = 18 := hml
  have N0 := Fr.nil n0
  show Ends p.tables e below _ (s₁.setTop (mkF m 0 #[.val (.int x0), .val (.int x1), .val (.long x2), .second, .val (.int x3), .val (.long x4), .second, .unset, .unset, .unset, .unset, .unset, .unset, .unset, .unset, .unset, .unset, .unset] []))
  refine own_bipush X0 hx hby at_0 rfl (16 : Int32) rfl ?_
  refine own_newarrayE X0 hx hby hZ (aty := .byte) (hw _ tw_0) e0 (by decide) 16 (by decide) (by decide) (by decide) (by decide) "[B" (by decide) .byte rfl [(.int (0 : Int32)), (.int (0 : Int32)), (.int (0 : Int32)), (.int (0 : Int32)), (.int (0 : Int32)), (.int (0 : Int32)), (.int (0 : Int32)), (.int (0 : Int32)), (.int (0 : Int32)), (.int (0 : Int32)), (.int (0 : Int32)), (.int (0 : Int32)), (.int (0 : Int32)), (.int (0 : Int32)), (.int (0 : Int32)), (.int (0 : Int32))] rfl at_2 rfl (fun T149 h149 b149 k149 X149 e149 g149 E149 V149 A149 => ?_)
  have ge_b149 : n0 ≤ b149 := own_ge O g149
  refine own_astore X149 hx hby at_4 rfl #[.val (.int x0), .val (.int x1), .val (.long x2), .second, .val (.int x3), .val (.long x4), .second, .val (.ref b149), .unset, .unset, .unset, .unset, .unset, .unset, .unset, .unset, .unset, .unset] rfl rfl ?_
  refine own_aload X149 hx hby at_6 rfl rfl rfl ?_
  refine own_iconst X149 hx hby at_8 rfl (0 : Int32) rfl ?_
  refine own_lloadN X149 hx hby at_9 rfl rfl ?_
  refine own_l2i X149 hx hby at_10 rfl ?_
  refine own_i2b X149 hx hby at_11 rfl ?_
  refine own_bastore X149 hx hby hZ x2.toInt32.toInt8.toInt32 (own_narb _) e149 V149 (by decide) 0 rfl (show 0 < 16 by decide) [(.int x2.toInt32.toInt8.toInt32), (.int (0 : Int32)), (.int (0 : Int32)), (.int (0 : Int32)), (.int (0 : Int32)), (.int (0 : Int32)), (.int (0 : Int32)), (.int (0 : Int32)), (.int (0 : Int32)), (.int (0 : Int32)), (.int (0 : Int32)), (.int (0 : Int32)), (.int (0 : Int32)), (.int (0 : Int32)), (.int (0 : Int32)), (.int (0 : Int32))] rfl (fits_nar_byte _) N0 ge_b149 at_12 rfl (fun T150 h150 L150 X150 e150 W150 V150 N150 => ?_)
  refine own_aload X150 hx hby at_13 rfl rfl rfl ?_
  refine own_bipush X150 hx hby at_15 rfl (15 : Int32) rfl ?_
  refine own_lloadN X150 hx hby at_17 rfl rfl ?_
  refine own_bipush X150 hx hby at_18 rfl (56 : Int32) rfl ?_
  refine own_lushr X150 hx hby at_20 rfl ?_
  refine own_l2i X150 hx hby at_21 rfl ?_
  refine own_i2b X150 hx hby at_22 rfl ?_
  refine own_bastore X150 hx hby hZ ((x2.toUInt64 >>> ((56 : Int32).toInt64.toUInt64 &&& Int64.toUInt64 63)).toInt64).toInt32.toInt8.toInt32 (own_narb _) e150 V150 (by decide) 15 rfl (show 15 < 16 by decide) [(.int x2.toInt32.toInt8.toInt32), (.int (0 : Int32)), (.int (0 : Int32)), (.int (0 : Int32)), (.int (0 : Int32)), (.int (0 : Int32)), (.int (0 : Int32)), (.int (0 : Int32)), (.int (0 : Int32)), (.int (0 : Int32)), (.int (0 : Int32)), (.int (0 : Int32)), (.int (0 : Int32)), (.int (0 : Int32)), (.int (0 : Int32)), (.int ((x2.toUInt64 >>> ((56 : Int32).toInt64.toUInt64 &&& Int64.toUInt64 63)).toInt64).toInt32.toInt8.toInt32)] rfl (fits_nar_byte _) N150 ge_b149 at_23 rfl (fun T151 h151 L151 X151 e151 W151 V151 N151 => ?_)
  refine own_iloadN X151 hx hby at_24 rfl rfl ?_
  refine own_iconst X151 hx hby at_25 rfl (1 : Int32) rfl ?_
  refine own_iand X151 hx hby at_26 rfl ?_
  refine own_if_eq X151 hx hby at_27 (pcY := 78) (pcN := 30) (by decide) rfl (fun (hc152 : (x0 &&& (1 : Int32)) = (0 : Int32)) => ?_) (fun (hc152 : ¬ (x0 &&& (1 : Int32)) = (0 : Int32)) => ?_)
  · -- pc 27: t
    refine own_lloadN X151 hx hby at_78 rfl rfl ?_
    refine own_l2i X151 hx hby at_79 rfl ?_
    refine own_i2b X151 hx hby at_80 rfl ?_
    refine own_istore X151 hx hby at_81 rfl #[.val (.int x0), .val (.int x1), .val (.long x2), .second, .val (.int x3), .val (.long x4), .second, .val (.ref b149), .val (.int x2.toInt32.toInt8.toInt32), .unset, .unset, .unset, .unset, .unset, .unset, .unset, .unset, .unset] rfl ?_
    refine own_lloadN X151 hx hby at_83 rfl rfl ?_
    refine own_bipush X151 hx hby at_84 rfl (8 : Int32) rfl ?_
    refine own_lshr X151 hx hby at_86 rfl ?_
    refine own_l2i X151 hx hby at_87 rfl ?_
    refine own_i2b X151 hx hby at_88 rfl ?_
    refine own_istore X151 hx hby at_89 rfl #[.val (.int x0), .val (.int x1), .val (.long x2), .second, .val (.int x3), .val (.long x4), .second, .val (.ref b149), .val (.int x2.toInt32.toInt8.toInt32), .val (.int (x2 >>> ((8 : Int32).toInt64 &&& 63)).toInt32.toInt8.toInt32), .unset, .unset, .unset, .unset, .unset, .unset, .unset, .unset] rfl ?_
    refine own_lloadN X151 hx hby at_91 rfl rfl ?_
    refine own_bipush X151 hx hby at_92 rfl (16 : Int32) rfl ?_
    refine own_lshr X151 hx hby at_94 rfl ?_
    refine own_l2i X151 hx hby at_95 rfl ?_
    refine own_i2b X151 hx hby at_96 rfl ?_
    refine own_istore X151 hx hby at_97 rfl #[.val (.int x0), .val (.int x1), .val (.long x2), .second, .val (.int x3), .val (.long x4), .second, .val (.ref b149), .val (.int x2.toInt32.toInt8.toInt32), .val (.int (x2 >>> ((8 : Int32).toInt64 &&& 63)).toInt32.toInt8.toInt32), .val (.int (x2 >>> ((16 : Int32).toInt64 &&& 63)).toInt32.toInt8.toInt32), .unset, .unset, .unset, .unset, .unset, .unset, .unset] rfl ?_
    refine own_iloadN X151 hx hby at_99 rfl rfl ?_
    refine own_iconst X151 hx hby at_100 rfl (3 : Int32) rfl ?_
    refine own_iand X151 hx hby at_101 rfl ?_
    refine own_istore X151 hx hby at_102 rfl #[.val (.int x0), .val (.int x1), .val (.long x2), .second, .val (.int x3), .val (.long x4), .second, .val (.ref b149), .val (.int x2.toInt32.toInt8.toInt32), .val (.int (x2 >>> ((8 : Int32).toInt64 &&& 63)).toInt32.toInt8.toInt32), .val (.int (x2 >>> ((16 : Int32).toInt64 &&& 63)).toInt32.toInt8.toInt32), .val (.int (x1 &&& (3 : Int32))), .unset, .unset, .unset, .unset, .unset, .unset] rfl ?_
    rcases own_k4 x1 with hz | hz | hz | hz
    · -- k = 0
      rw [hz]
      show Ends p.tables e below _ (T151.setTop (mkF m 104 #[.val (.int x0), .val (.int x1), .val (.long x2), .second, .val (.int x3), .val (.long x4), .second, .val (.ref b149), .val (.int x2.toInt32.toInt8.toInt32), .val (.int (x2 >>> ((8 : Int32).toInt64 &&& 63)).toInt32.toInt8.toInt32), .val (.int (x2 >>> ((16 : Int32).toInt64 &&& 63)).toInt32.toInt8.toInt32), .val (.int (0 : Int32)), .unset, .unset, .unset, .unset, .unset, .unset] []))
      refine own_iload X151 hx hby at_104 rfl rfl ?_
      refine own_if_ne X151 hx hby at_106 (pcY := 117) (pcN := 109) (by decide) rfl (fun (hc153 : ¬ (0 : Int32) = (0 : Int32)) => False.elim (by exact absurd hc153 (by decide))) (fun (hc153 : (0 : Int32) = (0 : Int32)) => ?_)
      refine own_iconst X151 hx hby at_109 rfl (0 : Int32) rfl ?_
      have f155 := (((O.ext E149).wr W150 ge_b149).wr W151 ge_b149)
      refine own_newarrayE X151 hx hby hZ (aty := .byte) (hw _ tw_0) e151 (by decide) 0 (by decide) (by decide) (by decide) (by decide) "[B" (by decide) .byte rfl [] rfl at_110 rfl (fun T154 h154 b154 k154 X154 e154 g154 E154 V154 A154 => ?_)
      have ge_b154 : n0 ≤ b154 := own_ge f155 g154
      have ne_b149_b154 : b149 ≠ b154 := own_lt V151.lt g154
      refine own_astore X154 hx hby at_112 rfl #[.val (.int x0), .val (.int x1), .val (.long x2), .second, .val (.int x3), .val (.long x4), .second, .val (.ref b149), .val (.int x2.toInt32.toInt8.toInt32), .val (.int (x2 >>> ((8 : Int32).toInt64 &&& 63)).toInt32.toInt8.toInt32), .val (.int (x2 >>> ((16 : Int32).toInt64 &&& 63)).toInt32.toInt8.toInt32), .val (.int (0 : Int32)), .val (.ref b154), .unset, .unset, .unset, .unset, .unset] rfl rfl ?_
      refine own_goto X154 hx hby at_114 (pc' := 180) (by decide) ?_
      refine own_aload X154 hx hby at_180 rfl rfl rfl ?_
      refine own_aload X154 hx hby at_182 rfl rfl rfl ?_
      have f157 := (V151.ext E154)
      have f158 := (f155.ext E154)
      have f159 := (((A149.wr W150).wr W151).ext E154)
      refine own_static X154 hx hby hZ (argsL := [(.ref b154), (.ref b149)]) (rest := []) hown (hw _ tw_1) (hw _ tw_2) (hw _ tw_3) (hw _ tw_4) (by decide) (rm1 l Z a0 hw b154 b149 h154 n0 f158 f157 f159 V154 A154 (by decide) (by decide)) e154 (by rw [hml]; rfl) pd_9 rfl (by decide) (W := 0) (Nat.le_refl _) (by decide) (by decide) (by decide) at_184 rfl rfl (fun v156 T156 L156 X156 hQ156 => ?_)
      obtain ⟨b156, y156, rfl, N156q, K156, gq156, sq156, A156, gr156, sr156, Fb156, V156, Ay156, nby156⟩ := hQ156
      have ge_b156 := gq156
      have ge_y156 := gr156
      show Ends p.tables e below _ (T156.setTop (mkF m 187 #[.val (.int x0), .val (.int x1), .val (.long x2), .second, .val (.int x3), .val (.long x4), .second, .val (.ref b149), .val (.int x2.toInt32.toInt8.toInt32), .val (.int (x2 >>> ((8 : Int32).toInt64 &&& 63)).toInt32.toInt8.toInt32), .val (.int (x2 >>> ((16 : Int32).toInt64 &&& 63)).toInt32.toInt8.toInt32), .val (.int (0 : Int32)), .val (.ref b154), .unset, .unset, .unset, .unset, .unset] [(.ref b156)]))
      refine own_astore X156 hx hby at_187 rfl #[.val (.int x0), .val (.int x1), .val (.long x2), .second, .val (.int x3), .val (.long x4), .second, .val (.ref b149), .val (.int x2.toInt32.toInt8.toInt32), .val (.int (x2 >>> ((8 : Int32).toInt64 &&& 63)).toInt32.toInt8.toInt32), .val (.int (x2 >>> ((16 : Int32).toInt64 &&& 63)).toInt32.toInt8.toInt32), .val (.int (0 : Int32)), .val (.ref b154), .val (.ref b156), .unset, .unset, .unset, .unset] rfl rfl ?_
      refine own_aload X156 hx hby at_189 rfl rfl rfl ?_
      have f161 := (f157.keep K156 nin0)
      have f162 := (V154.keep K156 nin0)
      have f163 := (f158.keep K156 all0)
      refine own_virtual X156 hx hby hZ (Cn := "com/example/lyrebird/lyrebird/content/Content") (a := b156) (argsL := []) (rest := []) hown (hw _ tw_30) (hw _ tw_31) (hw _ tw_33) (hw _ tw_32) (hw _ tw_3) (hw _ tw_34) (by decide) (rm4_a l Z a0 hw b156 T156.heap n0 f163 Fb156 V156 Ay156 (by decide)) A156 rfl (by rw [hml]; rfl) pd_7 rfl (by decide) (W := 0) (Nat.le_refl _) (by decide) (by decide) (by decide) at_191 rfl rfl (fun v160 T160 L160 X160 hQ160 => ?_)
      obtain ⟨b160, q160, rfl, N160q, K160, gq160, sq160, A160, gr160, sr160, Fv160, V160, Aq160⟩ := hQ160
      have ge_b160 := gq160
      have ge_q160 := gr160
      show Ends p.tables e below _ (T160.setTop (mkF m 194 #[.val (.int x0), .val (.int x1), .val (.long x2), .second, .val (.int x3), .val (.long x4), .second, .val (.ref b149), .val (.int x2.toInt32.toInt8.toInt32), .val (.int (x2 >>> ((8 : Int32).toInt64 &&& 63)).toInt32.toInt8.toInt32), .val (.int (x2 >>> ((16 : Int32).toInt64 &&& 63)).toInt32.toInt8.toInt32), .val (.int (0 : Int32)), .val (.ref b154), .val (.ref b156), .unset, .unset, .unset, .unset] [(.ref b160)]))
      refine own_astore X160 hx hby at_194 rfl #[.val (.int x0), .val (.int x1), .val (.long x2), .second, .val (.int x3), .val (.long x4), .second, .val (.ref b149), .val (.int x2.toInt32.toInt8.toInt32), .val (.int (x2 >>> ((8 : Int32).toInt64 &&& 63)).toInt32.toInt8.toInt32), .val (.int (x2 >>> ((16 : Int32).toInt64 &&& 63)).toInt32.toInt8.toInt32), .val (.int (0 : Int32)), .val (.ref b154), .val (.ref b156), .val (.ref b160), .unset, .unset, .unset] rfl rfl ?_
      refine own_aload X160 hx hby at_196 rfl rfl rfl ?_
      refine own_virtual X160 hx hby hZ (Cn := "java/util/Optional") (a := b160) (argsL := []) (rest := []) hown (hw _ tw_52) (hw _ tw_53) (hw _ tw_55) (hw _ tw_54) (hw _ tw_37) (hw _ tw_56) (by decide) (rm8_r l Z a0 hw b160 T160.heap q160 Fv160) A160 rfl (by rw [hml]; rfl) pd_10 rfl (by decide) (W := 0) (Nat.le_refl _) (by decide) (by decide) (by decide) at_198 rfl rfl (fun v164 T164 L164 X164 hQ164 => ?_)
      obtain ⟨rfl, rfl, e164⟩ := hQ164
      show Ends p.tables e below _ (T164.setTop (mkF m 201 #[.val (.int x0), .val (.int x1), .val (.long x2), .second, .val (.int x3), .val (.long x4), .second, .val (.ref b149), .val (.int x2.toInt32.toInt8.toInt32), .val (.int (x2 >>> ((8 : Int32).toInt64 &&& 63)).toInt32.toInt8.toInt32), .val (.int (x2 >>> ((16 : Int32).toInt64 &&& 63)).toInt32.toInt8.toInt32), .val (.int (0 : Int32)), .val (.ref b154), .val (.ref b156), .val (.ref b160), .unset, .unset, .unset] [(.int (1 : Int32))]))
      refine own_if_ne X164 hx hby at_201 (pcY := 206) (pcN := 204) (by decide) rfl (fun (hc165 : ¬ (1 : Int32) = (0 : Int32)) => ?_) (fun (hc165 : (1 : Int32) = (0 : Int32)) => False.elim (by exact absurd hc165 (by decide)))
      refine own_aload X164 hx hby at_206 rfl rfl rfl ?_
      refine own_virtual X164 hx hby hZ (Cn := "java/util/Optional") (a := b160) (argsL := []) (rest := []) hown (hw _ tw_57) (hw _ tw_58) (hw _ tw_60) (hw _ tw_59) (hw _ tw_37) (hw _ tw_61) (by decide) (rm9 l Z a0 hw b160 T160.heap q160 Fv160) A160 e164 (by rw [hml]; rfl) pd_11 rfl (by decide) (W := 0) (Nat.le_refl _) (by decide) (by decide) (by decide) at_208 rfl rfl (fun v166 T166 L166 X166 hQ166 => ?_)
      obtain ⟨rfl, rfl, e166⟩ := hQ166
      show Ends p.tables e below _ (T166.setTop (mkF m 211 #[.val (.int x0), .val (.int x1), .val (.long x2), .second, .val (.int x3), .val (.long x4), .second, .val (.ref b149), .val (.int x2.toInt32.toInt8.toInt32), .val (.int (x2 >>> ((8 : Int32).toInt64 &&& 63)).toInt32.toInt8.toInt32), .val (.int (x2 >>> ((16 : Int32).toInt64 &&& 63)).toInt32.toInt8.toInt32), .val (.int (0 : Int32)), .val (.ref b154), .val (.ref b156), .val (.ref b160), .unset, .unset, .unset] [(.ref q160)]))
      refine own_checkcast X166 hx hby hZ hown (hw _ tw_62) e166 (Ins.self Aq160) at_211 rfl (fun T167 X167 e167 => ?_)
      refine own_astore X167 hx hby at_214 rfl #[.val (.int x0), .val (.int x1), .val (.long x2), .second, .val (.int x3), .val (.long x4), .second, .val (.ref b149), .val (.int x2.toInt32.toInt8.toInt32), .val (.int (x2 >>> ((8 : Int32).toInt64 &&& 63)).toInt32.toInt8.toInt32), .val (.int (x2 >>> ((16 : Int32).toInt64 &&& 63)).toInt32.toInt8.toInt32), .val (.int (0 : Int32)), .val (.ref b154), .val (.ref b156), .val (.ref b160), .val (.ref q160), .unset, .unset] rfl rfl ?_
      refine own_aload X167 hx hby at_216 rfl rfl rfl ?_
      refine own_iload X167 hx hby at_218 rfl rfl ?_
      refine own_iload X167 hx hby at_220 rfl rfl ?_
      refine own_iload X167 hx hby at_222 rfl rfl ?_
      refine own_iload X167 hx hby at_224 rfl rfl ?_
      refine own_static X167 hx hby hZ (argsL := [(.ref q160), (.int (0 : Int32)), (.int x2.toInt32.toInt8.toInt32), (.int (x2 >>> ((8 : Int32).toInt64 &&& 63)).toInt32.toInt8.toInt32), (.int (x2 >>> ((16 : Int32).toInt64 &&& 63)).toInt32.toInt8.toInt32)]) (rest := []) hown (hw _ tw_63) (hw _ tw_64) (hw _ tw_65) (hw _ tw_66) (by decide) (rm10_0 l Z a0 hw q160 x2.toInt32.toInt8.toInt32 (x2 >>> ((8 : Int32).toInt64 &&& 63)).toInt32.toInt8.toInt32 (x2 >>> ((16 : Int32).toInt64 &&& 63)).toInt32.toInt8.toInt32 T160.heap V160) e167 (by rw [hml]; rfl) pd_12 rfl (by decide) (W := 0) (Nat.le_refl _) (by decide) (by decide) (by decide) at_226 rfl rfl (fun v168 T168 L168 X168 hQ168 => ?_)
      obtain ⟨rfl, rfl, e168⟩ := hQ168
      show Ends p.tables e below _ (T168.setTop (mkF m 229 #[.val (.int x0), .val (.int x1), .val (.long x2), .second, .val (.int x3), .val (.long x4), .second, .val (.ref b149), .val (.int x2.toInt32.toInt8.toInt32), .val (.int (x2 >>> ((8 : Int32).toInt64 &&& 63)).toInt32.toInt8.toInt32), .val (.int (x2 >>> ((16 : Int32).toInt64 &&& 63)).toInt32.toInt8.toInt32), .val (.int (0 : Int32)), .val (.ref b154), .val (.ref b156), .val (.ref b160), .val (.ref q160), .unset, .unset] [(.int (1 : Int32))]))
      refine own_if_ne X168 hx hby at_229 (pcY := 234) (pcN := 232) (by decide) rfl (fun (hc169 : ¬ (1 : Int32) = (0 : Int32)) => ?_) (fun (hc169 : (1 : Int32) = (0 : Int32)) => False.elim (by exact absurd hc169 (by decide)))
      refine own_iload X168 hx hby at_234 rfl rfl ?_
      refine own_if_le X168 hx hby at_236 (pcY := 250) (pcN := 239) (by decide) rfl (fun (hc170 : 0 ≤ 0) => ?_) (fun (hc170 : 0 < 0) => False.elim (by exact absurd hc170 (by decide)))
      refine own_aload X168 hx hby at_250 rfl rfl rfl ?_
      have f172 := (f161.keep K160 nin0)
      have f173 := (f162.keep K160 nin0)
      have f174 := (A156.keep K160)
      have f175 := (V156.keep K160 nin0)
      have f176 := (f163.keep K160 all0)
      have f177 := (Fb156.keep K160 nin0)
      have f178 := (Ay156.keep K160)
      refine own_virtual X168 hx hby hZ (Cn := "com/example/lyrebird/lyrebird/content/Content") (a := b156) (argsL := []) (rest := []) hown (hw _ tw_30) (hw _ tw_31) (hw _ tw_33) (hw _ tw_32) (hw _ tw_3) (hw _ tw_34) (by decide) (rm4_a l Z a0 hw b156 T160.heap n0 f176 f177 f175 f178 (by decide)) f174 e168 (by rw [hml]; rfl) pd_7 rfl (by decide) (W := 0) (Nat.le_refl _) (by decide) (by decide) (by decide) at_252 rfl rfl (fun v171 T171 L171 X171 hQ171 => ?_)
      obtain ⟨b171, q171, rfl, N171q, K171, gq171, sq171, A171, gr171, sr171, Fv171, V171, Aq171⟩ := hQ171
      have ge_b171 := gq171
      have ge_q171 := gr171
      show Ends p.tables e below _ (T171.setTop (mkF m 255 #[.val (.int x0), .val (.int x1), .val (.long x2), .second, .val (.int x3), .val (.long x4), .second, .val (.ref b149), .val (.int x2.toInt32.toInt8.toInt32), .val (.int (x2 >>> ((8 : Int32).toInt64 &&& 63)).toInt32.toInt8.toInt32), .val (.int (x2 >>> ((16 : Int32).toInt64 &&& 63)).toInt32.toInt8.toInt32), .val (.int (0 : Int32)), .val (.ref b154), .val (.ref b156), .val (.ref b160), .val (.ref q160), .unset, .unset] [(.ref b171)]))
      refine own_astore X171 hx hby at_255 rfl #[.val (.int x0), .val (.int x1), .val (.long x2), .second, .val (.int x3), .val (.long x4), .second, .val (.ref b149), .val (.int x2.toInt32.toInt8.toInt32), .val (.int (x2 >>> ((8 : Int32).toInt64 &&& 63)).toInt32.toInt8.toInt32), .val (.int (x2 >>> ((16 : Int32).toInt64 &&& 63)).toInt32.toInt8.toInt32), .val (.int (0 : Int32)), .val (.ref b154), .val (.ref b156), .val (.ref b160), .val (.ref q160), .val (.ref b171), .unset] rfl rfl ?_
      refine own_aload X171 hx hby at_257 rfl rfl rfl ?_
      refine own_virtual X171 hx hby hZ (Cn := "java/util/Optional") (a := b171) (argsL := []) (rest := []) hown (hw _ tw_52) (hw _ tw_53) (hw _ tw_55) (hw _ tw_54) (hw _ tw_37) (hw _ tw_56) (by decide) (rm8_r l Z a0 hw b171 T171.heap q171 Fv171) A171 rfl (by rw [hml]; rfl) pd_10 rfl (by decide) (W := 0) (Nat.le_refl _) (by decide) (by decide) (by decide) at_259 rfl rfl (fun v179 T179 L179 X179 hQ179 => ?_)
      obtain ⟨rfl, rfl, e179⟩ := hQ179
      show Ends p.tables e below _ (T179.setTop (mkF m 262 #[.val (.int x0), .val (.int x1), .val (.long x2), .second, .val (.int x3), .val (.long x4), .second, .val (.ref b149), .val (.int x2.toInt32.toInt8.toInt32), .val (.int (x2 >>> ((8 : Int32).toInt64 &&& 63)).toInt32.toInt8.toInt32), .val (.int (x2 >>> ((16 : Int32).toInt64 &&& 63)).toInt32.toInt8.toInt32), .val (.int (0 : Int32)), .val (.ref b154), .val (.ref b156), .val (.ref b160), .val (.ref q160), .val (.ref b171), .unset] [(.int (1 : Int32))]))
      refine own_if_ne X179 hx hby at_262 (pcY := 267) (pcN := 265) (by decide) rfl (fun (hc180 : ¬ (1 : Int32) = (0 : Int32)) => ?_) (fun (hc180 : (1 : Int32) = (0 : Int32)) => False.elim (by exact absurd hc180 (by decide)))
      refine own_aload X179 hx hby at_267 rfl rfl rfl ?_
      refine own_virtual X179 hx hby hZ (Cn := "java/util/Optional") (a := b171) (argsL := []) (rest := []) hown (hw _ tw_57) (hw _ tw_58) (hw _ tw_60) (hw _ tw_59) (hw _ tw_37) (hw _ tw_61) (by decide) (rm9 l Z a0 hw b171 T171.heap q171 Fv171) A171 e179 (by rw [hml]; rfl) pd_11 rfl (by decide) (W := 0) (Nat.le_refl _) (by decide) (by decide) (by decide) at_269 rfl rfl (fun v181 T181 L181 X181 hQ181 => ?_)
      obtain ⟨rfl, rfl, e181⟩ := hQ181
      show Ends p.tables e below _ (T181.setTop (mkF m 272 #[.val (.int x0), .val (.int x1), .val (.long x2), .second, .val (.int x3), .val (.long x4), .second, .val (.ref b149), .val (.int x2.toInt32.toInt8.toInt32), .val (.int (x2 >>> ((8 : Int32).toInt64 &&& 63)).toInt32.toInt8.toInt32), .val (.int (x2 >>> ((16 : Int32).toInt64 &&& 63)).toInt32.toInt8.toInt32), .val (.int (0 : Int32)), .val (.ref b154), .val (.ref b156), .val (.ref b160), .val (.ref q160), .val (.ref b171), .unset] [(.ref q171)]))
      refine own_checkcast X181 hx hby hZ hown (hw _ tw_62) e181 (Ins.self Aq171) at_272 rfl (fun T182 X182 e182 => ?_)
      refine own_astore X182 hx hby at_275 rfl #[.val (.int x0), .val (.int x1), .val (.long x2), .second, .val (.int x3), .val (.long x4), .second, .val (.ref b149), .val (.int x2.toInt32.toInt8.toInt32), .val (.int (x2 >>> ((8 : Int32).toInt64 &&& 63)).toInt32.toInt8.toInt32), .val (.int (x2 >>> ((16 : Int32).toInt64 &&& 63)).toInt32.toInt8.toInt32), .val (.int (0 : Int32)), .val (.ref b154), .val (.ref b156), .val (.ref b160), .val (.ref q160), .val (.ref b171), .val (.ref q171)] rfl rfl ?_
      refine own_aload X182 hx hby at_277 rfl rfl rfl ?_
      refine own_aload X182 hx hby at_279 rfl rfl rfl ?_
      refine own_acmp_eq X182 hx hby at_281 (pcY := 304) (pcN := 284) (by decide) rfl rfl rfl (fun (hc183 : ((.ref q171) : Value) = (.ref q160)) => False.elim (by exact absurd (Value.ref.inj hc183) (Ne.symm (Nat.ne_of_lt (Nat.lt_of_lt_of_le V160.lt sr171))))) (fun (hc183 : ¬ ((.ref q171) : Value) = (.ref q160)) => ?_)
      refine own_aload X182 hx hby at_284 rfl rfl rfl ?_
      refine own_iload X182 hx hby at_286 rfl rfl ?_
      refine own_iload X182 hx hby at_288 rfl rfl ?_
      refine own_iload X182 hx hby at_290 rfl rfl ?_
      refine own_iload X182 hx hby at_292 rfl rfl ?_
      refine own_static X182 hx hby hZ (argsL := [(.ref q171), (.int (0 : Int32)), (.int x2.toInt32.toInt8.toInt32), (.int (x2 >>> ((8 : Int32).toInt64 &&& 63)).toInt32.toInt8.toInt32), (.int (x2 >>> ((16 : Int32).toInt64 &&& 63)).toInt32.toInt8.toInt32)]) (rest := []) hown (hw _ tw_63) (hw _ tw_64) (hw _ tw_65) (hw _ tw_66) (by decide) (rm10_0 l Z a0 hw q171 x2.toInt32.toInt8.toInt32 (x2 >>> ((8 : Int32).toInt64 &&& 63)).toInt32.toInt8.toInt32 (x2 >>> ((16 : Int32).toInt64 &&& 63)).toInt32.toInt8.toInt32 T171.heap V171) e182 (by rw [hml]; rfl) pd_12 rfl (by decide) (W := 0) (Nat.le_refl _) (by decide) (by decide) (by decide) at_294 rfl rfl (fun v184 T184 L184 X184 hQ184 => ?_)
      obtain ⟨rfl, rfl, e184⟩ := hQ184
      show Ends p.tables e below _ (T184.setTop (mkF m 297 #[.val (.int x0), .val (.int x1), .val (.long x2), .second, .val (.int x3), .val (.long x4), .second, .val (.ref b149), .val (.int x2.toInt32.toInt8.toInt32), .val (.int (x2 >>> ((8 : Int32).toInt64 &&& 63)).toInt32.toInt8.toInt32), .val (.int (x2 >>> ((16 : Int32).toInt64 &&& 63)).toInt32.toInt8.toInt32), .val (.int (0 : Int32)), .val (.ref b154), .val (.ref b156), .val (.ref b160), .val (.ref q160), .val (.ref b171), .val (.ref q171)] [(.int (1 : Int32))]))
      refine own_if_eq X184 hx hby at_297 (pcY := 304) (pcN := 300) (by decide) rfl (fun (hc185 : (1 : Int32) = (0 : Int32)) => False.elim (by exact absurd hc185 (by decide))) (fun (hc185 : ¬ (1 : Int32) = (0 : Int32)) => ?_)
      refine own_iconst X184 hx hby at_300 rfl (1 : Int32) rfl ?_
      refine own_goto X184 hx hby at_301 (pc' := 305) (by decide) ?_
      have f186 := (Nat.le_trans (Nat.le_trans (Nat.le_trans (Nat.le_trans (Nat.le_trans (Nat.le_trans (Nat.le_trans (Nat.le_refl _) E149.1) (Keep.of_wr W150).1) (Keep.of_wr W151).1) E154.1) K156.1) K160.1) K171.1)
      refine own_retW X184 hx hby hret hlk at_305 (.int (1 : Int32)) rfl (Or.inl ⟨rfl, by simp, _, rfl⟩) hS (by rw [show T184.heap = _ from e184]; exact f186) (by decide) (by decide) ?_
      exact ⟨rfl, (Fr.app (Fr.app (Fr.app (Fr.app (Fr.app (Fr.app (Fr.app (Fr.app (Fr.app N151 N156q) N160q) (Fr.nil _)) (Fr.nil _)) (Fr.nil _)) N171q) (Fr.nil _)) (Fr.nil _)) (Fr.nil _))⟩
    · -- k = 1
      rw [hz]
      show Ends p.tables e below _ (T151.setTop (mkF m 104 #[.val (.int x0), .val (.int x1), .val (.long x2), .second, .val (.int x3), .val (.long x4), .second, .val (.ref b149), .val (.int x2.toInt32.toInt8.toInt32), .val (.int (x2 >>> ((8 : Int32).toInt64 &&& 63)).toInt32.toInt8.toInt32), .val (.int (x2 >>> ((16 : Int32).toInt64 &&& 63)).toInt32.toInt8.toInt32), .val (.int (1 : Int32)), .unset, .unset, .unset, .unset, .unset, .unset] []))
      refine own_iload X151 hx hby at_104 rfl rfl ?_
      refine own_if_ne X151 hx hby at_106 (pcY := 117) (pcN := 109) (by decide) rfl (fun (hc187 : ¬ (1 : Int32) = (0 : Int32)) => ?_) (fun (hc187 : (1 : Int32) = (0 : Int32)) => False.elim (by exact absurd hc187 (by decide)))
      refine own_iload X151 hx hby at_117 rfl rfl ?_
      refine own_iconst X151 hx hby at_119 rfl (1 : Int32) rfl ?_
      refine own_icmp_ne X151 hx hby at_120 (pcY := 136) (pcN := 123) (by decide) rfl (fun (hc188 : ¬ (1 : Int32) = (1 : Int32)) => False.elim (by exact absurd hc188 (by decide))) (fun (hc188 : (1 : Int32) = (1 : Int32)) => ?_)
      refine own_iconst X151 hx hby at_123 rfl (1 : Int32) rfl ?_
      have f190 := (((O.ext E149).wr W150 ge_b149).wr W151 ge_b149)
      refine own_newarrayE X151 hx hby hZ (aty := .byte) (hw _ tw_0) e151 (by decide) 1 (by decide) (by decide) (by decide) (by decide) "[B" (by decide) .byte rfl [(.int (0 : Int32))] rfl at_124 rfl (fun T189 h189 b189 k189 X189 e189 g189 E189 V189 A189 => ?_)
      have ge_b189 : n0 ≤ b189 := own_ge f190 g189
      have ne_b149_b189 : b149 ≠ b189 := own_lt V151.lt g189
      refine own_dup X189 hx hby at_126 rfl rfl ?_
      refine own_iconst X189 hx hby at_127 rfl (0 : Int32) rfl ?_
      refine own_iload X189 hx hby at_128 rfl rfl ?_
      refine own_bastore X189 hx hby hZ x2.toInt32.toInt8.toInt32 (own_narb _) e189 V189 (by decide) 0 rfl (show 0 < 1 by decide) [(.int x2.toInt32.toInt8.toInt32)] rfl (fits_nar_byte _) N151 ge_b189 at_130 rfl (fun T191 h191 L191 X191 e191 W191 V191 N191 => ?_)
      refine own_astore X191 hx hby at_131 rfl #[.val (.int x0), .val (.int x1), .val (.long x2), .second, .val (.int x3), .val (.long x4), .second, .val (.ref b149), .val (.int x2.toInt32.toInt8.toInt32), .val (.int (x2 >>> ((8 : Int32).toInt64 &&& 63)).toInt32.toInt8.toInt32), .val (.int (x2 >>> ((16 : Int32).toInt64 &&& 63)).toInt32.toInt8.toInt32), .val (.int (1 : Int32)), .val (.ref b189), .unset, .unset, .unset, .unset, .unset] rfl rfl ?_
      refine own_goto X191 hx hby at_133 (pc' := 180) (by decide) ?_
      refine own_aload X191 hx hby at_180 rfl rfl rfl ?_
      refine own_aload X191 hx hby at_182 rfl rfl rfl ?_
      have f193 := ((V151.ext E189).other W191 ne_b149_b189)
      have f194 := ((f190.ext E189).wr W191 ge_b189)
      have f195 := ((((A149.wr W150).wr W151).ext E189).wr W191)
      have f196 := (A189.wr W191)
      refine own_static X191 hx hby hZ (argsL := [(.ref b189), (.ref b149)]) (rest := []) hown (hw _ tw_1) (hw _ tw_2) (hw _ tw_3) (hw _ tw_4) (by decide) (rm1 l Z a0 hw b189 b149 h191 n0 f194 f193 f195 V191 f196 (by decide) (by decide)) e191 (by rw [hml]; rfl) pd_9 rfl (by decide) (W := 0) (Nat.le_refl _) (by decide) (by decide) (by decide) at_184 rfl rfl (fun v192 T192 L192 X192 hQ192 => ?_)
      obtain ⟨b192, y192, rfl, N192q, K192, gq192, sq192, A192, gr192, sr192, Fb192, V192, Ay192, nby192⟩ := hQ192
      have ge_b192 := gq192
      have ge_y192 := gr192
      show Ends p.tables e below _ (T192.setTop (mkF m 187 #[.val (.int x0), .val (.int x1), .val (.long x2), .second, .val (.int x3), .val (.long x4), .second, .val (.ref b149), .val (.int x2.toInt32.toInt8.toInt32), .val (.int (x2 >>> ((8 : Int32).toInt64 &&& 63)).toInt32.toInt8.toInt32), .val (.int (x2 >>> ((16 : Int32).toInt64 &&& 63)).toInt32.toInt8.toInt32), .val (.int (1 : Int32)), .val (.ref b189), .unset, .unset, .unset, .unset, .unset] [(.ref b192)]))
      refine own_astore X192 hx hby at_187 rfl #[.val (.int x0), .val (.int x1), .val (.long x2), .second, .val (.int x3), .val (.long x4), .second, .val (.ref b149), .val (.int x2.toInt32.toInt8.toInt32), .val (.int (x2 >>> ((8 : Int32).toInt64 &&& 63)).toInt32.toInt8.toInt32), .val (.int (x2 >>> ((16 : Int32).toInt64 &&& 63)).toInt32.toInt8.toInt32), .val (.int (1 : Int32)), .val (.ref b189), .val (.ref b192), .unset, .unset, .unset, .unset] rfl rfl ?_
      refine own_aload X192 hx hby at_189 rfl rfl rfl ?_
      have f198 := (f193.keep K192 nin0)
      have f199 := (V191.keep K192 nin0)
      have f200 := (f194.keep K192 all0)
      refine own_virtual X192 hx hby hZ (Cn := "com/example/lyrebird/lyrebird/content/Content") (a := b192) (argsL := []) (rest := []) hown (hw _ tw_30) (hw _ tw_31) (hw _ tw_33) (hw _ tw_32) (hw _ tw_3) (hw _ tw_34) (by decide) (rm4_a l Z a0 hw b192 T192.heap n0 f200 Fb192 V192 Ay192 (by decide)) A192 rfl (by rw [hml]; rfl) pd_7 rfl (by decide) (W := 0) (Nat.le_refl _) (by decide) (by decide) (by decide) at_191 rfl rfl (fun v197 T197 L197 X197 hQ197 => ?_)
      obtain ⟨b197, q197, rfl, N197q, K197, gq197, sq197, A197, gr197, sr197, Fv197, V197, Aq197⟩ := hQ197
      have ge_b197 := gq197
      have ge_q197 := gr197
      show Ends p.tables e below _ (T197.setTop (mkF m 194 #[.val (.int x0), .val (.int x1), .val (.long x2), .second, .val (.int x3), .val (.long x4), .second, .val (.ref b149), .val (.int x2.toInt32.toInt8.toInt32), .val (.int (x2 >>> ((8 : Int32).toInt64 &&& 63)).toInt32.toInt8.toInt32), .val (.int (x2 >>> ((16 : Int32).toInt64 &&& 63)).toInt32.toInt8.toInt32), .val (.int (1 : Int32)), .val (.ref b189), .val (.ref b192), .unset, .unset, .unset, .unset] [(.ref b197)]))
      refine own_astore X197 hx hby at_194 rfl #[.val (.int x0), .val (.int x1), .val (.long x2), .second, .val (.int x3), .val (.long x4), .second, .val (.ref b149), .val (.int x2.toInt32.toInt8.toInt32), .val (.int (x2 >>> ((8 : Int32).toInt64 &&& 63)).toInt32.toInt8.toInt32), .val (.int (x2 >>> ((16 : Int32).toInt64 &&& 63)).toInt32.toInt8.toInt32), .val (.int (1 : Int32)), .val (.ref b189), .val (.ref b192), .val (.ref b197), .unset, .unset, .unset] rfl rfl ?_
      refine own_aload X197 hx hby at_196 rfl rfl rfl ?_
      refine own_virtual X197 hx hby hZ (Cn := "java/util/Optional") (a := b197) (argsL := []) (rest := []) hown (hw _ tw_52) (hw _ tw_53) (hw _ tw_55) (hw _ tw_54) (hw _ tw_37) (hw _ tw_56) (by decide) (rm8_r l Z a0 hw b197 T197.heap q197 Fv197) A197 rfl (by rw [hml]; rfl) pd_10 rfl (by decide) (W := 0) (Nat.le_refl _) (by decide) (by decide) (by decide) at_198 rfl rfl (fun v201 T201 L201 X201 hQ201 => ?_)
      obtain ⟨rfl, rfl, e201⟩ := hQ201
      show Ends p.tables e below _ (T201.setTop (mkF m 201 #[.val (.int x0), .val (.int x1), .val (.long x2), .second, .val (.int x3), .val (.long x4), .second, .val (.ref b149), .val (.int x2.toInt32.toInt8.toInt32), .val (.int (x2 >>> ((8 : Int32).toInt64 &&& 63)).toInt32.toInt8.toInt32), .val (.int (x2 >>> ((16 : Int32).toInt64 &&& 63)).toInt32.toInt8.toInt32), .val (.int (1 : Int32)), .val (.ref b189), .val (.ref b192), .val (.ref b197), .unset, .unset, .unset] [(.int (1 : Int32))]))
      refine own_if_ne X201 hx hby at_201 (pcY := 206) (pcN := 204) (by decide) rfl (fun (hc202 : ¬ (1 : Int32) = (0 : Int32)) => ?_) (fun (hc202 : (1 : Int32) = (0 : Int32)) => False.elim (by exact absurd hc202 (by decide)))
      refine own_aload X201 hx hby at_206 rfl rfl rfl ?_
      refine own_virtual X201 hx hby hZ (Cn := "java/util/Optional") (a := b197) (argsL := []) (rest := []) hown (hw _ tw_57) (hw _ tw_58) (hw _ tw_60) (hw _ tw_59) (hw _ tw_37) (hw _ tw_61) (by decide) (rm9 l Z a0 hw b197 T197.heap q197 Fv197) A197 e201 (by rw [hml]; rfl) pd_11 rfl (by decide) (W := 0) (Nat.le_refl _) (by decide) (by decide) (by decide) at_208 rfl rfl (fun v203 T203 L203 X203 hQ203 => ?_)
      obtain ⟨rfl, rfl, e203⟩ := hQ203
      show Ends p.tables e below _ (T203.setTop (mkF m 211 #[.val (.int x0), .val (.int x1), .val (.long x2), .second, .val (.int x3), .val (.long x4), .second, .val (.ref b149), .val (.int x2.toInt32.toInt8.toInt32), .val (.int (x2 >>> ((8 : Int32).toInt64 &&& 63)).toInt32.toInt8.toInt32), .val (.int (x2 >>> ((16 : Int32).toInt64 &&& 63)).toInt32.toInt8.toInt32), .val (.int (1 : Int32)), .val (.ref b189), .val (.ref b192), .val (.ref b197), .unset, .unset, .unset] [(.ref q197)]))
      refine own_checkcast X203 hx hby hZ hown (hw _ tw_62) e203 (Ins.self Aq197) at_211 rfl (fun T204 X204 e204 => ?_)
      refine own_astore X204 hx hby at_214 rfl #[.val (.int x0), .val (.int x1), .val (.long x2), .second, .val (.int x3), .val (.long x4), .second, .val (.ref b149), .val (.int x2.toInt32.toInt8.toInt32), .val (.int (x2 >>> ((8 : Int32).toInt64 &&& 63)).toInt32.toInt8.toInt32), .val (.int (x2 >>> ((16 : Int32).toInt64 &&& 63)).toInt32.toInt8.toInt32), .val (.int (1 : Int32)), .val (.ref b189), .val (.ref b192), .val (.ref b197), .val (.ref q197), .unset, .unset] rfl rfl ?_
      refine own_aload X204 hx hby at_216 rfl rfl rfl ?_
      refine own_iload X204 hx hby at_218 rfl rfl ?_
      refine own_iload X204 hx hby at_220 rfl rfl ?_
      refine own_iload X204 hx hby at_222 rfl rfl ?_
      refine own_iload X204 hx hby at_224 rfl rfl ?_
      refine own_static X204 hx hby hZ (argsL := [(.ref q197), (.int (1 : Int32)), (.int x2.toInt32.toInt8.toInt32), (.int (x2 >>> ((8 : Int32).toInt64 &&& 63)).toInt32.toInt8.toInt32), (.int (x2 >>> ((16 : Int32).toInt64 &&& 63)).toInt32.toInt8.toInt32)]) (rest := []) hown (hw _ tw_63) (hw _ tw_64) (hw _ tw_65) (hw _ tw_66) (by decide) (rm10_1 l Z a0 hw q197 x2.toInt32.toInt8.toInt32 (x2 >>> ((8 : Int32).toInt64 &&& 63)).toInt32.toInt8.toInt32 (x2 >>> ((16 : Int32).toInt64 &&& 63)).toInt32.toInt8.toInt32 T197.heap V197) e204 (by rw [hml]; rfl) pd_12 rfl (by decide) (W := 0) (Nat.le_refl _) (by decide) (by decide) (by decide) at_226 rfl rfl (fun v205 T205 L205 X205 hQ205 => ?_)
      obtain ⟨rfl, rfl, e205⟩ := hQ205
      show Ends p.tables e below _ (T205.setTop (mkF m 229 #[.val (.int x0), .val (.int x1), .val (.long x2), .second, .val (.int x3), .val (.long x4), .second, .val (.ref b149), .val (.int x2.toInt32.toInt8.toInt32), .val (.int (x2 >>> ((8 : Int32).toInt64 &&& 63)).toInt32.toInt8.toInt32), .val (.int (x2 >>> ((16 : Int32).toInt64 &&& 63)).toInt32.toInt8.toInt32), .val (.int (1 : Int32)), .val (.ref b189), .val (.ref b192), .val (.ref b197), .val (.ref q197), .unset, .unset] [(.int (1 : Int32))]))
      refine own_if_ne X205 hx hby at_229 (pcY := 234) (pcN := 232) (by decide) rfl (fun (hc206 : ¬ (1 : Int32) = (0 : Int32)) => ?_) (fun (hc206 : (1 : Int32) = (0 : Int32)) => False.elim (by exact absurd hc206 (by decide)))
      refine own_iload X205 hx hby at_234 rfl rfl ?_
      refine own_if_le X205 hx hby at_236 (pcY := 250) (pcN := 239) (by decide) rfl (fun (hc207 : 1 ≤ 0) => False.elim (by exact absurd hc207 (by decide))) (fun (hc207 : 0 < 1) => ?_)
      refine own_aload X205 hx hby at_239 rfl rfl rfl ?_
      refine own_iconst X205 hx hby at_241 rfl (0 : Int32) rfl ?_
      refine own_aload X205 hx hby at_242 rfl rfl rfl ?_
      refine own_iconst X205 hx hby at_244 rfl (0 : Int32) rfl ?_
      refine own_baload X205 hx hby hZ x2.toInt32.toInt8.toInt32 e205 V197 (by decide) rfl at_245 rfl ?_
      refine own_iconst X205 hx hby at_246 rfl (1 : Int32) rfl ?_
      refine own_iadd X205 hx hby at_247 rfl ?_
      refine own_i2b X205 hx hby at_248 rfl ?_
      refine own_bastore X205 hx hby hZ (x2.toInt32.toInt8.toInt32 + (1 : Int32)).toInt8.toInt32 (own_narb _) e205 V197 (by decide) 0 rfl (show 0 < 1 by decide) [(.int (x2.toInt32.toInt8.toInt32 + (1 : Int32)).toInt8.toInt32)] rfl (fits_nar_byte _) (Fr.app (Fr.app (Fr.app (Fr.app (Fr.app N191 N192q) N197q) (Fr.nil _)) (Fr.nil _)) (Fr.nil _)) ge_q197 at_249 rfl (fun T208 h208 L208 X208 e208 W208 V208 N208 => ?_)
      refine own_aload X208 hx hby at_250 rfl rfl rfl ?_
      have f210 := ((f198.keep K197 nin0).other W208 (Nat.ne_of_lt (Nat.lt_of_lt_of_le f198.lt sr197)))
      have f211 := ((f199.keep K197 nin0).other W208 (Nat.ne_of_lt (Nat.lt_of_lt_of_le f199.lt sr197)))
      have f212 := ((A192.keep K197).wr W208)
      have f213 := ((V192.keep K197 nin0).other W208 (Nat.ne_of_lt (Nat.lt_of_lt_of_le V192.lt sr197)))
      have f214 := (A197.wr W208)
      have f215 := ((f200.keep K197 all0).wr W208 ge_q197)
      have f216 := ((Fb192.keep K197 nin0).other W208 (Or.inl (Nat.ne_of_lt (Nat.lt_of_lt_of_le A192.lt sr197))))
      have f217 := ((Ay192.keep K197).wr W208)
      refine own_virtual X208 hx hby hZ (Cn := "com/example/lyrebird/lyrebird/content/Content") (a := b192) (argsL := []) (rest := []) hown (hw _ tw_30) (hw _ tw_31) (hw _ tw_33) (hw _ tw_32) (hw _ tw_3) (hw _ tw_34) (by decide) (rm4_a l Z a0 hw b192 h208 n0 f215 f216 f213 f217 (by decide)) f212 e208 (by rw [hml]; rfl) pd_7 rfl (by decide) (W := 0) (Nat.le_refl _) (by decide) (by decide) (by decide) at_252 rfl rfl (fun v209 T209 L209 X209 hQ209 => ?_)
      obtain ⟨b209, q209, rfl, N209q, K209, gq209, sq209, A209, gr209, sr209, Fv209, V209, Aq209⟩ := hQ209
      have ge_b209 := gq209
      have ge_q209 := gr209
      show Ends p.tables e below _ (T209.setTop (mkF m 255 #[.val (.int x0), .val (.int x1), .val (.long x2), .second, .val (.int x3), .val (.long x4), .second, .val (.ref b149), .val (.int x2.toInt32.toInt8.toInt32), .val (.int (x2 >>> ((8 : Int32).toInt64 &&& 63)).toInt32.toInt8.toInt32), .val (.int (x2 >>> ((16 : Int32).toInt64 &&& 63)).toInt32.toInt8.toInt32), .val (.int (1 : Int32)), .val (.ref b189), .val (.ref b192), .val (.ref b197), .val (.ref q197), .unset, .unset] [(.ref b209)]))
      refine own_astore X209 hx hby at_255 rfl #[.val (.int x0), .val (.int x1), .val (.long x2), .second, .val (.int x3), .val (.long x4), .second, .val (.ref b149), .val (.int x2.toInt32.toInt8.toInt32), .val (.int (x2 >>> ((8 : Int32).toInt64 &&& 63)).toInt32.toInt8.toInt32), .val (.int (x2 >>> ((16 : Int32).toInt64 &&& 63)).toInt32.toInt8.toInt32), .val (.int (1 : Int32)), .val (.ref b189), .val (.ref b192), .val (.ref b197), .val (.ref q197), .val (.ref b209), .unset] rfl rfl ?_
      refine own_aload X209 hx hby at_257 rfl rfl rfl ?_
      refine own_virtual X209 hx hby hZ (Cn := "java/util/Optional") (a := b209) (argsL := []) (rest := []) hown (hw _ tw_52) (hw _ tw_53) (hw _ tw_55) (hw _ tw_54) (hw _ tw_37) (hw _ tw_56) (by decide) (rm8_r l Z a0 hw b209 T209.heap q209 Fv209) A209 rfl (by rw [hml]; rfl) pd_10 rfl (by decide) (W := 0) (Nat.le_refl _) (by decide) (by decide) (by decide) at_259 rfl rfl (fun v218 T218 L218 X218 hQ218 => ?_)
      obtain ⟨rfl, rfl, e218⟩ := hQ218
      show Ends p.tables e below _ (T218.setTop (mkF m 262 #[.val (.int x0), .val (.int x1), .val (.long x2), .second, .val (.int x3), .val (.long x4), .second, .val (.ref b149), .val (.int x2.toInt32.toInt8.toInt32), .val (.int (x2 >>> ((8 : Int32).toInt64 &&& 63)).toInt32.toInt8.toInt32), .val (.int (x2 >>> ((16 : Int32).toInt64 &&& 63)).toInt32.toInt8.toInt32), .val (.int (1 : Int32)), .val (.ref b189), .val (.ref b192), .val (.ref b197), .val (.ref q197), .val (.ref b209), .unset] [(.int (1 : Int32))]))
      refine own_if_ne X218 hx hby at_262 (pcY := 267) (pcN := 265) (by decide) rfl (fun (hc219 : ¬ (1 : Int32) = (0 : Int32)) => ?_) (fun (hc219 : (1 : Int32) = (0 : Int32)) => False.elim (by exact absurd hc219 (by decide)))
      refine own_aload X218 hx hby at_267 rfl rfl rfl ?_
      refine own_virtual X218 hx hby hZ (Cn := "java/util/Optional") (a := b209) (argsL := []) (rest := []) hown (hw _ tw_57) (hw _ tw_58) (hw _ tw_60) (hw _ tw_59) (hw _ tw_37) (hw _ tw_61) (by decide) (rm9 l Z a0 hw b209 T209.heap q209 Fv209) A209 e218 (by rw [hml]; rfl) pd_11 rfl (by decide) (W := 0) (Nat.le_refl _) (by decide) (by decide) (by decide) at_269 rfl rfl (fun v220 T220 L220 X220 hQ220 => ?_)
      obtain ⟨rfl, rfl, e220⟩ := hQ220
      show Ends p.tables e below _ (T220.setTop (mkF m 272 #[.val (.int x0), .val (.int x1), .val (.long x2), .second, .val (.int x3), .val (.long x4), .second, .val (.ref b149), .val (.int x2.toInt32.toInt8.toInt32), .val (.int (x2 >>> ((8 : Int32).toInt64 &&& 63)).toInt32.toInt8.toInt32), .val (.int (x2 >>> ((16 : Int32).toInt64 &&& 63)).toInt32.toInt8.toInt32), .val (.int (1 : Int32)), .val (.ref b189), .val (.ref b192), .val (.ref b197), .val (.ref q197), .val (.ref b209), .unset] [(.ref q209)]))
      refine own_checkcast X220 hx hby hZ hown (hw _ tw_62) e220 (Ins.self Aq209) at_272 rfl (fun T221 X221 e221 => ?_)
      refine own_astore X221 hx hby at_275 rfl #[.val (.int x0), .val (.int x1), .val (.long x2), .second, .val (.int x3), .val (.long x4), .second, .val (.ref b149), .val (.int x2.toInt32.toInt8.toInt32), .val (.int (x2 >>> ((8 : Int32).toInt64 &&& 63)).toInt32.toInt8.toInt32), .val (.int (x2 >>> ((16 : Int32).toInt64 &&& 63)).toInt32.toInt8.toInt32), .val (.int (1 : Int32)), .val (.ref b189), .val (.ref b192), .val (.ref b197), .val (.ref q197), .val (.ref b209), .val (.ref q209)] rfl rfl ?_
      refine own_aload X221 hx hby at_277 rfl rfl rfl ?_
      refine own_aload X221 hx hby at_279 rfl rfl rfl ?_
      refine own_acmp_eq X221 hx hby at_281 (pcY := 304) (pcN := 284) (by decide) rfl rfl rfl (fun (hc222 : ((.ref q209) : Value) = (.ref q197)) => False.elim (by exact absurd (Value.ref.inj hc222) (Ne.symm (Nat.ne_of_lt (Nat.lt_of_lt_of_le V208.lt sr209))))) (fun (hc222 : ¬ ((.ref q209) : Value) = (.ref q197)) => ?_)
      refine own_aload X221 hx hby at_284 rfl rfl rfl ?_
      refine own_iload X221 hx hby at_286 rfl rfl ?_
      refine own_iload X221 hx hby at_288 rfl rfl ?_
      refine own_iload X221 hx hby at_290 rfl rfl ?_
      refine own_iload X221 hx hby at_292 rfl rfl ?_
      refine own_static X221 hx hby hZ (argsL := [(.ref q209), (.int (1 : Int32)), (.int x2.toInt32.toInt8.toInt32), (.int (x2 >>> ((8 : Int32).toInt64 &&& 63)).toInt32.toInt8.toInt32), (.int (x2 >>> ((16 : Int32).toInt64 &&& 63)).toInt32.toInt8.toInt32)]) (rest := []) hown (hw _ tw_63) (hw _ tw_64) (hw _ tw_65) (hw _ tw_66) (by decide) (rm10_1 l Z a0 hw q209 x2.toInt32.toInt8.toInt32 (x2 >>> ((8 : Int32).toInt64 &&& 63)).toInt32.toInt8.toInt32 (x2 >>> ((16 : Int32).toInt64 &&& 63)).toInt32.toInt8.toInt32 T209.heap V209) e221 (by rw [hml]; rfl) pd_12 rfl (by decide) (W := 0) (Nat.le_refl _) (by decide) (by decide) (by decide) at_294 rfl rfl (fun v223 T223 L223 X223 hQ223 => ?_)
      obtain ⟨rfl, rfl, e223⟩ := hQ223
      show Ends p.tables e below _ (T223.setTop (mkF m 297 #[.val (.int x0), .val (.int x1), .val (.long x2), .second, .val (.int x3), .val (.long x4), .second, .val (.ref b149), .val (.int x2.toInt32.toInt8.toInt32), .val (.int (x2 >>> ((8 : Int32).toInt64 &&& 63)).toInt32.toInt8.toInt32), .val (.int (x2 >>> ((16 : Int32).toInt64 &&& 63)).toInt32.toInt8.toInt32), .val (.int (1 : Int32)), .val (.ref b189), .val (.ref b192), .val (.ref b197), .val (.ref q197), .val (.ref b209), .val (.ref q209)] [(.int (1 : Int32))]))
      refine own_if_eq X223 hx hby at_297 (pcY := 304) (pcN := 300) (by decide) rfl (fun (hc224 : (1 : Int32) = (0 : Int32)) => False.elim (by exact absurd hc224 (by decide))) (fun (hc224 : ¬ (1 : Int32) = (0 : Int32)) => ?_)
      refine own_iconst X223 hx hby at_300 rfl (1 : Int32) rfl ?_
      refine own_goto X223 hx hby at_301 (pc' := 305) (by decide) ?_
      have f225 := (Nat.le_trans (Nat.le_trans (Nat.le_trans (Nat.le_trans (Nat.le_trans (Nat.le_trans (Nat.le_trans (Nat.le_trans (Nat.le_trans (Nat.le_refl _) E149.1) (Keep.of_wr W150).1) (Keep.of_wr W151).1) E189.1) (Keep.of_wr W191).1) K192.1) K197.1) (Keep.of_wr W208).1) K209.1)
      refine own_retW X223 hx hby hret hlk at_305 (.int (1 : Int32)) rfl (Or.inl ⟨rfl, by simp, _, rfl⟩) hS (by rw [show T223.heap = _ from e223]; exact f225) (by decide) (by decide) ?_
      exact ⟨rfl, (Fr.app (Fr.app (Fr.app (Fr.app N208 N209q) (Fr.nil _)) (Fr.nil _)) (Fr.nil _))⟩
    · -- k = 2
      rw [hz]
      show Ends p.tables e below _ (T151.setTop (mkF m 104 #[.val (.int x0), .val (.int x1), .val (.long x2), .second, .val (.int x3), .val (.long x4), .second, .val (.ref b149), .val (.int x2.toInt32.toInt8.toInt32), .val (.int (x2 >>> ((8 : Int32).toInt64 &&& 63)).toInt32.toInt8.toInt32), .val (.int (x2 >>> ((16 : Int32).toInt64 &&& 63)).toInt32.toInt8.toInt32), .val (.int (2 : Int32)), .unset, .unset, .unset, .unset, .unset, .unset] []))
      refine own_iload X151 hx hby at_104 rfl rfl ?_
      refine own_if_ne X151 hx hby at_106 (pcY := 117) (pcN := 109) (by decide) rfl (fun (hc226 : ¬ (2 : Int32) = (0 : Int32)) => ?_) (fun (hc226 : (2 : Int32) = (0 : Int32)) => False.elim (by exact absurd hc226 (by decide)))
      refine own_iload X151 hx hby at_117 rfl rfl ?_
      refine own_iconst X151 hx hby at_119 rfl (1 : Int32) rfl ?_
      refine own_icmp_ne X151 hx hby at_120 (pcY := 136) (pcN := 123) (by decide) rfl (fun (hc227 : ¬ (2 : Int32) = (1 : Int32)) => ?_) (fun (hc227 : (2 : Int32) = (1 : Int32)) => False.elim (by exact absurd hc227 (by decide)))
      refine own_iload X151 hx hby at_136 rfl rfl ?_
      refine own_iconst X151 hx hby at_138 rfl (2 : Int32) rfl ?_
      refine own_icmp_ne X151 hx hby at_139 (pcY := 160) (pcN := 142) (by decide) rfl (fun (hc228 : ¬ (2 : Int32) = (2 : Int32)) => False.elim (by exact absurd hc228 (by decide))) (fun (hc228 : (2 : Int32) = (2 : Int32)) => ?_)
      refine own_iconst X151 hx hby at_142 rfl (2 : Int32) rfl ?_
      have f230 := (((O.ext E149).wr W150 ge_b149).wr W151 ge_b149)
      refine own_newarrayE X151 hx hby hZ (aty := .byte) (hw _ tw_0) e151 (by decide) 2 (by decide) (by decide) (by decide) (by decide) "[B" (by decide) .byte rfl [(.int (0 : Int32)), (.int (0 : Int32))] rfl at_143 rfl (fun T229 h229 b229 k229 X229 e229 g229 E229 V229 A229 => ?_)
      have ge_b229 : n0 ≤ b229 := own_ge f230 g229
      have ne_b149_b229 : b149 ≠ b229 := own_lt V151.lt g229
      refine own_dup X229 hx hby at_145 rfl rfl ?_
      refine own_iconst X229 hx hby at_146 rfl (0 : Int32) rfl ?_
      refine own_iload X229 hx hby at_147 rfl rfl ?_
      refine own_bastore X229 hx hby hZ x2.toInt32.toInt8.toInt32 (own_narb _) e229 V229 (by decide) 0 rfl (show 0 < 2 by decide) [(.int x2.toInt32.toInt8.toInt32), (.int (0 : Int32))] rfl (fits_nar_byte _) N151 ge_b229 at_149 rfl (fun T231 h231 L231 X231 e231 W231 V231 N231 => ?_)
      refine own_dup X231 hx hby at_150 rfl rfl ?_
      refine own_iconst X231 hx hby at_151 rfl (1 : Int32) rfl ?_
      refine own_iload X231 hx hby at_152 rfl rfl ?_
      refine own_bastore X231 hx hby hZ (x2 >>> ((8 : Int32).toInt64 &&& 63)).toInt32.toInt8.toInt32 (own_narb _) e231 V231 (by decide) 1 rfl (show 1 < 2 by decide) [(.int x2.toInt32.toInt8.toInt32), (.int (x2 >>> ((8 : Int32).toInt64 &&& 63)).toInt32.toInt8.toInt32)] rfl (fits_nar_byte _) N231 ge_b229 at_154 rfl (fun T232 h232 L232 X232 e232 W232 V232 N232 => ?_)
      refine own_astore X232 hx hby at_155 rfl #[.val (.int x0), .val (.int x1), .val (.long x2), .second, .val (.int x3), .val (.long x4), .second, .val (.ref b149), .val (.int x2.toInt32.toInt8.toInt32), .val (.int (x2 >>> ((8 : Int32).toInt64 &&& 63)).toInt32.toInt8.toInt32), .val (.int (x2 >>> ((16 : Int32).toInt64 &&& 63)).toInt32.toInt8.toInt32), .val (.int (2 : Int32)), .val (.ref b229), .unset, .unset, .unset, .unset, .unset] rfl rfl ?_
      refine own_goto X232 hx hby at_157 (pc' := 180) (by decide) ?_
      refine own_aload X232 hx hby at_180 rfl rfl rfl ?_
      refine own_aload X232 hx hby at_182 rfl rfl rfl ?_
      have f234 := (((V151.ext E229).other W231 ne_b149_b229).other W232 ne_b149_b229)
      have f235 := (((f230.ext E229).wr W231 ge_b229).wr W232 ge_b229)
      have f236 := (((((A149.wr W150).wr W151).ext E229).wr W231).wr W232)
      have f237 := ((A229.wr W231).wr W232)
      refine own_static X232 hx hby hZ (argsL := [(.ref b229), (.ref b149)]) (rest := []) hown (hw _ tw_1) (hw _ tw_2) (hw _ tw_3) (hw _ tw_4) (by decide) (rm1 l Z a0 hw b229 b149 h232 n0 f235 f234 f236 V232 f237 (by decide) (by decide)) e232 (by rw [hml]; rfl) pd_9 rfl (by decide) (W := 0) (Nat.le_refl _) (by decide) (by decide) (by decide) at_184 rfl rfl (fun v233 T233 L233 X233 hQ233 => ?_)
      obtain ⟨b233, y233, rfl, N233q, K233, gq233, sq233, A233, gr233, sr233, Fb233, V233, Ay233, nby233⟩ := hQ233
      have ge_b233 := gq233
      have ge_y233 := gr233
      show Ends p.tables e below _ (T233.setTop (mkF m 187 #[.val (.int x0), .val (.int x1), .val (.long x2), .second, .val (.int x3), .val (.long x4), .second, .val (.ref b149), .val (.int x2.toInt32.toInt8.toInt32), .val (.int (x2 >>> ((8 : Int32).toInt64 &&& 63)).toInt32.toInt8.toInt32), .val (.int (x2 >>> ((16 : Int32).toInt64 &&& 63)).toInt32.toInt8.toInt32), .val (.int (2 : Int32)), .val (.ref b229), .unset, .unset, .unset, .unset, .unset] [(.ref b233)]))
      refine own_astore X233 hx hby at_187 rfl #[.val (.int x0), .val (.int x1), .val (.long x2), .second, .val (.int x3), .val (.long x4), .second, .val (.ref b149), .val (.int x2.toInt32.toInt8.toInt32), .val (.int (x2 >>> ((8 : Int32).toInt64 &&& 63)).toInt32.toInt8.toInt32), .val (.int (x2 >>> ((16 : Int32).toInt64 &&& 63)).toInt32.toInt8.toInt32), .val (.int (2 : Int32)), .val (.ref b229), .val (.ref b233), .unset, .unset, .unset, .unset] rfl rfl ?_
      refine own_aload X233 hx hby at_189 rfl rfl rfl ?_
      have f239 := (f234.keep K233 nin0)
      have f240 := (V232.keep K233 nin0)
      have f241 := (f235.keep K233 all0)
      refine own_virtual X233 hx hby hZ (Cn := "com/example/lyrebird/lyrebird/content/Content") (a := b233) (argsL := []) (rest := []) hown (hw _ tw_30) (hw _ tw_31) (hw _ tw_33) (hw _ tw_32) (hw _ tw_3) (hw _ tw_34) (by decide) (rm4_a l Z a0 hw b233 T233.heap n0 f241 Fb233 V233 Ay233 (by decide)) A233 rfl (by rw [hml]; rfl) pd_7 rfl (by decide) (W := 0) (Nat.le_refl _) (by decide) (by decide) (by decide) at_191 rfl rfl (fun v238 T238 L238 X238 hQ238 => ?_)
      obtain ⟨b238, q238, rfl, N238q, K238, gq238, sq238, A238, gr238, sr238, Fv238, V238, Aq238⟩ := hQ238
      have ge_b238 := gq238
      have ge_q238 := gr238
      show Ends p.tables e below _ (T238.setTop (mkF m 194 #[.val (.int x0), .val (.int x1), .val (.long x2), .second, .val (.int x3), .val (.long x4), .second, .val (.ref b149), .val (.int x2.toInt32.toInt8.toInt32), .val (.int (x2 >>> ((8 : Int32).toInt64 &&& 63)).toInt32.toInt8.toInt32), .val (.int (x2 >>> ((16 : Int32).toInt64 &&& 63)).toInt32.toInt8.toInt32), .val (.int (2 : Int32)), .val (.ref b229), .val (.ref b233), .unset, .unset, .unset, .unset] [(.ref b238)]))
      refine own_astore X238 hx hby at_194 rfl #[.val (.int x0), .val (.int x1), .val (.long x2), .second, .val (.int x3), .val (.long x4), .second, .val (.ref b149), .val (.int x2.toInt32.toInt8.toInt32), .val (.int (x2 >>> ((8 : Int32).toInt64 &&& 63)).toInt32.toInt8.toInt32), .val (.int (x2 >>> ((16 : Int32).toInt64 &&& 63)).toInt32.toInt8.toInt32), .val (.int (2 : Int32)), .val (.ref b229), .val (.ref b233), .val (.ref b238), .unset, .unset, .unset] rfl rfl ?_
      refine own_aload X238 hx hby at_196 rfl rfl rfl ?_
      refine own_virtual X238 hx hby hZ (Cn := "java/util/Optional") (a := b238) (argsL := []) (rest := []) hown (hw _ tw_52) (hw _ tw_53) (hw _ tw_55) (hw _ tw_54) (hw _ tw_37) (hw _ tw_56) (by decide) (rm8_r l Z a0 hw b238 T238.heap q238 Fv238) A238 rfl (by rw [hml]; rfl) pd_10 rfl (by decide) (W := 0) (Nat.le_refl _) (by decide) (by decide) (by decide) at_198 rfl rfl (fun v242 T242 L242 X242 hQ242 => ?_)
      obtain ⟨rfl, rfl, e242⟩ := hQ242
      show Ends p.tables e below _ (T242.setTop (mkF m 201 #[.val (.int x0), .val (.int x1), .val (.long x2), .second, .val (.int x3), .val (.long x4), .second, .val (.ref b149), .val (.int x2.toInt32.toInt8.toInt32), .val (.int (x2 >>> ((8 : Int32).toInt64 &&& 63)).toInt32.toInt8.toInt32), .val (.int (x2 >>> ((16 : Int32).toInt64 &&& 63)).toInt32.toInt8.toInt32), .val (.int (2 : Int32)), .val (.ref b229), .val (.ref b233), .val (.ref b238), .unset, .unset, .unset] [(.int (1 : Int32))]))
      refine own_if_ne X242 hx hby at_201 (pcY := 206) (pcN := 204) (by decide) rfl (fun (hc243 : ¬ (1 : Int32) = (0 : Int32)) => ?_) (fun (hc243 : (1 : Int32) = (0 : Int32)) => False.elim (by exact absurd hc243 (by decide)))
      refine own_aload X242 hx hby at_206 rfl rfl rfl ?_
      refine own_virtual X242 hx hby hZ (Cn := "java/util/Optional") (a := b238) (argsL := []) (rest := []) hown (hw _ tw_57) (hw _ tw_58) (hw _ tw_60) (hw _ tw_59) (hw _ tw_37) (hw _ tw_61) (by decide) (rm9 l Z a0 hw b238 T238.heap q238 Fv238) A238 e242 (by rw [hml]; rfl) pd_11 rfl (by decide) (W := 0) (Nat.le_refl _) (by decide) (by decide) (by decide) at_208 rfl rfl (fun v244 T244 L244 X244 hQ244 => ?_)
      obtain ⟨rfl, rfl, e244⟩ := hQ244
      show Ends p.tables e below _ (T244.setTop (mkF m 211 #[.val (.int x0), .val (.int x1), .val (.long x2), .second, .val (.int x3), .val (.long x4), .second, .val (.ref b149), .val (.int x2.toInt32.toInt8.toInt32), .val (.int (x2 >>> ((8 : Int32).toInt64 &&& 63)).toInt32.toInt8.toInt32), .val (.int (x2 >>> ((16 : Int32).toInt64 &&& 63)).toInt32.toInt8.toInt32), .val (.int (2 : Int32)), .val (.ref b229), .val (.ref b233), .val (.ref b238), .unset, .unset, .unset] [(.ref q238)]))
      refine own_checkcast X244 hx hby hZ hown (hw _ tw_62) e244 (Ins.self Aq238) at_211 rfl (fun T245 X245 e245 => ?_)
      refine own_astore X245 hx hby at_214 rfl #[.val (.int x0), .val (.int x1), .val (.long x2), .second, .val (.int x3), .val (.long x4), .second, .val (.ref b149), .val (.int x2.toInt32.toInt8.toInt32), .val (.int (x2 >>> ((8 : Int32).toInt64 &&& 63)).toInt32.toInt8.toInt32), .val (.int (x2 >>> ((16 : Int32).toInt64 &&& 63)).toInt32.toInt8.toInt32), .val (.int (2 : Int32)), .val (.ref b229), .val (.ref b233), .val (.ref b238), .val (.ref q238), .unset, .unset] rfl rfl ?_
      refine own_aload X245 hx hby at_216 rfl rfl rfl ?_
      refine own_iload X245 hx hby at_218 rfl rfl ?_
      refine own_iload X245 hx hby at_220 rfl rfl ?_
      refine own_iload X245 hx hby at_222 rfl rfl ?_
      refine own_iload X245 hx hby at_224 rfl rfl ?_
      refine own_static X245 hx hby hZ (argsL := [(.ref q238), (.int (2 : Int32)), (.int x2.toInt32.toInt8.toInt32), (.int (x2 >>> ((8 : Int32).toInt64 &&& 63)).toInt32.toInt8.toInt32), (.int (x2 >>> ((16 : Int32).toInt64 &&& 63)).toInt32.toInt8.toInt32)]) (rest := []) hown (hw _ tw_63) (hw _ tw_64) (hw _ tw_65) (hw _ tw_66) (by decide) (rm10_2 l Z a0 hw q238 x2.toInt32.toInt8.toInt32 (x2 >>> ((8 : Int32).toInt64 &&& 63)).toInt32.toInt8.toInt32 (x2 >>> ((16 : Int32).toInt64 &&& 63)).toInt32.toInt8.toInt32 T238.heap V238) e245 (by rw [hml]; rfl) pd_12 rfl (by decide) (W := 0) (Nat.le_refl _) (by decide) (by decide) (by decide) at_226 rfl rfl (fun v246 T246 L246 X246 hQ246 => ?_)
      obtain ⟨rfl, rfl, e246⟩ := hQ246
      show Ends p.tables e below _ (T246.setTop (mkF m 229 #[.val (.int x0), .val (.int x1), .val (.long x2), .second, .val (.int x3), .val (.long x4), .second, .val (.ref b149), .val (.int x2.toInt32.toInt8.toInt32), .val (.int (x2 >>> ((8 : Int32).toInt64 &&& 63)).toInt32.toInt8.toInt32), .val (.int (x2 >>> ((16 : Int32).toInt64 &&& 63)).toInt32.toInt8.toInt32), .val (.int (2 : Int32)), .val (.ref b229), .val (.ref b233), .val (.ref b238), .val (.ref q238), .unset, .unset] [(.int (1 : Int32))]))
      refine own_if_ne X246 hx hby at_229 (pcY := 234) (pcN := 232) (by decide) rfl (fun (hc247 : ¬ (1 : Int32) = (0 : Int32)) => ?_) (fun (hc247 : (1 : Int32) = (0 : Int32)) => False.elim (by exact absurd hc247 (by decide)))
      refine own_iload X246 hx hby at_234 rfl rfl ?_
      refine own_if_le X246 hx hby at_236 (pcY := 250) (pcN := 239) (by decide) rfl (fun (hc248 : 2 ≤ 0) => False.elim (by exact absurd hc248 (by decide))) (fun (hc248 : 0 < 2) => ?_)
      refine own_aload X246 hx hby at_239 rfl rfl rfl ?_
      refine own_iconst X246 hx hby at_241 rfl (0 : Int32) rfl ?_
      refine own_aload X246 hx hby at_242 rfl rfl rfl ?_
      refine own_iconst X246 hx hby at_244 rfl (0 : Int32) rfl ?_
      refine own_baload X246 hx hby hZ x2.toInt32.toInt8.toInt32 e246 V238 (by decide) rfl at_245 rfl ?_
      refine own_iconst X246 hx hby at_246 rfl (1 : Int32) rfl ?_
      refine own_iadd X246 hx hby at_247 rfl ?_
      refine own_i2b X246 hx hby at_248 rfl ?_
      refine own_bastore X246 hx hby hZ (x2.toInt32.toInt8.toInt32 + (1 : Int32)).toInt8.toInt32 (own_narb _) e246 V238 (by decide) 0 rfl (show 0 < 2 by decide) [(.int (x2.toInt32.toInt8.toInt32 + (1 : Int32)).toInt8.toInt32), (.int (x2 >>> ((8 : Int32).toInt64 &&& 63)).toInt32.toInt8.toInt32)] rfl (fits_nar_byte _) (Fr.app (Fr.app (Fr.app (Fr.app (Fr.app N232 N233q) N238q) (Fr.nil _)) (Fr.nil _)) (Fr.nil _)) ge_q238 at_249 rfl (fun T249 h249 L249 X249 e249 W249 V249 N249 => ?_)
      refine own_aload X249 hx hby at_250 rfl rfl rfl ?_
      have f251 := ((f239.keep K238 nin0).other W249 (Nat.ne_of_lt (Nat.lt_of_lt_of_le f239.lt sr238)))
      have f252 := ((f240.keep K238 nin0).other W249 (Nat.ne_of_lt (Nat.lt_of_lt_of_le f240.lt sr238)))
      have f253 := ((A233.keep K238).wr W249)
      have f254 := ((V233.keep K238 nin0).other W249 (Nat.ne_of_lt (Nat.lt_of_lt_of_le V233.lt sr238)))
      have f255 := (A238.wr W249)
      have f256 := ((f241.keep K238 all0).wr W249 ge_q238)
      have f257 := ((Fb233.keep K238 nin0).other W249 (Or.inl (Nat.ne_of_lt (Nat.lt_of_lt_of_le A233.lt sr238))))
      have f258 := ((Ay233.keep K238).wr W249)
      refine own_virtual X249 hx hby hZ (Cn := "com/example/lyrebird/lyrebird/content/Content") (a := b233) (argsL := []) (rest := []) hown (hw _ tw_30) (hw _ tw_31) (hw _ tw_33) (hw _ tw_32) (hw _ tw_3) (hw _ tw_34) (by decide) (rm4_a l Z a0 hw b233 h249 n0 f256 f257 f254 f258 (by decide)) f253 e249 (by rw [hml]; rfl) pd_7 rfl (by decide) (W := 0) (Nat.le_refl _) (by decide) (by decide) (by decide) at_252 rfl rfl (fun v250 T250 L250 X250 hQ250 => ?_)
      obtain ⟨b250, q250, rfl, N250q, K250, gq250, sq250, A250, gr250, sr250, Fv250, V250, Aq250⟩ := hQ250
      have ge_b250 := gq250
      have ge_q250 := gr250
      show Ends p.tables e below _ (T250.setTop (mkF m 255 #[.val (.int x0), .val (.int x1), .val (.long x2), .second, .val (.int x3), .val (.long x4), .second, .val (.ref b149), .val (.int x2.toInt32.toInt8.toInt32), .val (.int (x2 >>> ((8 : Int32).toInt64 &&& 63)).toInt32.toInt8.toInt32), .val (.int (x2 >>> ((16 : Int32).toInt64 &&& 63)).toInt32.toInt8.toInt32), .val (.int (2 : Int32)), .val (.ref b229), .val (.ref b233), .val (.ref b238), .val (.ref q238), .unset, .unset] [(.ref b250)]))
      refine own_astore X250 hx hby at_255 rfl #[.val (.int x0), .val (.int x1), .val (.long x2), .second, .val (.int x3), .val (.long x4), .second, .val (.ref b149), .val (.int x2.toInt32.toInt8.toInt32), .val (.int (x2 >>> ((8 : Int32).toInt64 &&& 63)).toInt32.toInt8.toInt32), .val (.int (x2 >>> ((16 : Int32).toInt64 &&& 63)).toInt32.toInt8.toInt32), .val (.int (2 : Int32)), .val (.ref b229), .val (.ref b233), .val (.ref b238), .val (.ref q238), .val (.ref b250), .unset] rfl rfl ?_
      refine own_aload X250 hx hby at_257 rfl rfl rfl ?_
      refine own_virtual X250 hx hby hZ (Cn := "java/util/Optional") (a := b250) (argsL := []) (rest := []) hown (hw _ tw_52) (hw _ tw_53) (hw _ tw_55) (hw _ tw_54) (hw _ tw_37) (hw _ tw_56) (by decide) (rm8_r l Z a0 hw b250 T250.heap q250 Fv250) A250 rfl (by rw [hml]; rfl) pd_10 rfl (by decide) (W := 0) (Nat.le_refl _) (by decide) (by decide) (by decide) at_259 rfl rfl (fun v259 T259 L259 X259 hQ259 => ?_)
      obtain ⟨rfl, rfl, e259⟩ := hQ259
      show Ends p.tables e below _ (T259.setTop (mkF m 262 #[.val (.int x0), .val (.int x1), .val (.long x2), .second, .val (.int x3), .val (.long x4), .second, .val (.ref b149), .val (.int x2.toInt32.toInt8.toInt32), .val (.int (x2 >>> ((8 : Int32).toInt64 &&& 63)).toInt32.toInt8.toInt32), .val (.int (x2 >>> ((16 : Int32).toInt64 &&& 63)).toInt32.toInt8.toInt32), .val (.int (2 : Int32)), .val (.ref b229), .val (.ref b233), .val (.ref b238), .val (.ref q238), .val (.ref b250), .unset] [(.int (1 : Int32))]))
      refine own_if_ne X259 hx hby at_262 (pcY := 267) (pcN := 265) (by decide) rfl (fun (hc260 : ¬ (1 : Int32) = (0 : Int32)) => ?_) (fun (hc260 : (1 : Int32) = (0 : Int32)) => False.elim (by exact absurd hc260 (by decide)))
      refine own_aload X259 hx hby at_267 rfl rfl rfl ?_
      refine own_virtual X259 hx hby hZ (Cn := "java/util/Optional") (a := b250) (argsL := []) (rest := []) hown (hw _ tw_57) (hw _ tw_58) (hw _ tw_60) (hw _ tw_59) (hw _ tw_37) (hw _ tw_61) (by decide) (rm9 l Z a0 hw b250 T250.heap q250 Fv250) A250 e259 (by rw [hml]; rfl) pd_11 rfl (by decide) (W := 0) (Nat.le_refl _) (by decide) (by decide) (by decide) at_269 rfl rfl (fun v261 T261 L261 X261 hQ261 => ?_)
      obtain ⟨rfl, rfl, e261⟩ := hQ261
      show Ends p.tables e below _ (T261.setTop (mkF m 272 #[.val (.int x0), .val (.int x1), .val (.long x2), .second, .val (.int x3), .val (.long x4), .second, .val (.ref b149), .val (.int x2.toInt32.toInt8.toInt32), .val (.int (x2 >>> ((8 : Int32).toInt64 &&& 63)).toInt32.toInt8.toInt32), .val (.int (x2 >>> ((16 : Int32).toInt64 &&& 63)).toInt32.toInt8.toInt32), .val (.int (2 : Int32)), .val (.ref b229), .val (.ref b233), .val (.ref b238), .val (.ref q238), .val (.ref b250), .unset] [(.ref q250)]))
      refine own_checkcast X261 hx hby hZ hown (hw _ tw_62) e261 (Ins.self Aq250) at_272 rfl (fun T262 X262 e262 => ?_)
      refine own_astore X262 hx hby at_275 rfl #[.val (.int x0), .val (.int x1), .val (.long x2), .second, .val (.int x3), .val (.long x4), .second, .val (.ref b149), .val (.int x2.toInt32.toInt8.toInt32), .val (.int (x2 >>> ((8 : Int32).toInt64 &&& 63)).toInt32.toInt8.toInt32), .val (.int (x2 >>> ((16 : Int32).toInt64 &&& 63)).toInt32.toInt8.toInt32), .val (.int (2 : Int32)), .val (.ref b229), .val (.ref b233), .val (.ref b238), .val (.ref q238), .val (.ref b250), .val (.ref q250)] rfl rfl ?_
      refine own_aload X262 hx hby at_277 rfl rfl rfl ?_
      refine own_aload X262 hx hby at_279 rfl rfl rfl ?_
      refine own_acmp_eq X262 hx hby at_281 (pcY := 304) (pcN := 284) (by decide) rfl rfl rfl (fun (hc263 : ((.ref q250) : Value) = (.ref q238)) => False.elim (by exact absurd (Value.ref.inj hc263) (Ne.symm (Nat.ne_of_lt (Nat.lt_of_lt_of_le V249.lt sr250))))) (fun (hc263 : ¬ ((.ref q250) : Value) = (.ref q238)) => ?_)
      refine own_aload X262 hx hby at_284 rfl rfl rfl ?_
      refine own_iload X262 hx hby at_286 rfl rfl ?_
      refine own_iload X262 hx hby at_288 rfl rfl ?_
      refine own_iload X262 hx hby at_290 rfl rfl ?_
      refine own_iload X262 hx hby at_292 rfl rfl ?_
      refine own_static X262 hx hby hZ (argsL := [(.ref q250), (.int (2 : Int32)), (.int x2.toInt32.toInt8.toInt32), (.int (x2 >>> ((8 : Int32).toInt64 &&& 63)).toInt32.toInt8.toInt32), (.int (x2 >>> ((16 : Int32).toInt64 &&& 63)).toInt32.toInt8.toInt32)]) (rest := []) hown (hw _ tw_63) (hw _ tw_64) (hw _ tw_65) (hw _ tw_66) (by decide) (rm10_2 l Z a0 hw q250 x2.toInt32.toInt8.toInt32 (x2 >>> ((8 : Int32).toInt64 &&& 63)).toInt32.toInt8.toInt32 (x2 >>> ((16 : Int32).toInt64 &&& 63)).toInt32.toInt8.toInt32 T250.heap V250) e262 (by rw [hml]; rfl) pd_12 rfl (by decide) (W := 0) (Nat.le_refl _) (by decide) (by decide) (by decide) at_294 rfl rfl (fun v264 T264 L264 X264 hQ264 => ?_)
      obtain ⟨rfl, rfl, e264⟩ := hQ264
      show Ends p.tables e below _ (T264.setTop (mkF m 297 #[.val (.int x0), .val (.int x1), .val (.long x2), .second, .val (.int x3), .val (.long x4), .second, .val (.ref b149), .val (.int x2.toInt32.toInt8.toInt32), .val (.int (x2 >>> ((8 : Int32).toInt64 &&& 63)).toInt32.toInt8.toInt32), .val (.int (x2 >>> ((16 : Int32).toInt64 &&& 63)).toInt32.toInt8.toInt32), .val (.int (2 : Int32)), .val (.ref b229), .val (.ref b233), .val (.ref b238), .val (.ref q238), .val (.ref b250), .val (.ref q250)] [(.int (1 : Int32))]))
      refine own_if_eq X264 hx hby at_297 (pcY := 304) (pcN := 300) (by decide) rfl (fun (hc265 : (1 : Int32) = (0 : Int32)) => False.elim (by exact absurd hc265 (by decide))) (fun (hc265 : ¬ (1 : Int32) = (0 : Int32)) => ?_)
      refine own_iconst X264 hx hby at_300 rfl (1 : Int32) rfl ?_
      refine own_goto X264 hx hby at_301 (pc' := 305) (by decide) ?_
      have f266 := (Nat.le_trans (Nat.le_trans (Nat.le_trans (Nat.le_trans (Nat.le_trans (Nat.le_trans (Nat.le_trans (Nat.le_trans (Nat.le_trans (Nat.le_trans (Nat.le_refl _) E149.1) (Keep.of_wr W150).1) (Keep.of_wr W151).1) E229.1) (Keep.of_wr W231).1) (Keep.of_wr W232).1) K233.1) K238.1) (Keep.of_wr W249).1) K250.1)
      refine own_retW X264 hx hby hret hlk at_305 (.int (1 : Int32)) rfl (Or.inl ⟨rfl, by simp, _, rfl⟩) hS (by rw [show T264.heap = _ from e264]; exact f266) (by decide) (by decide) ?_
      exact ⟨rfl, (Fr.app (Fr.app (Fr.app (Fr.app N249 N250q) (Fr.nil _)) (Fr.nil _)) (Fr.nil _))⟩
    · -- k = 3
      rw [hz]
      show Ends p.tables e below _ (T151.setTop (mkF m 104 #[.val (.int x0), .val (.int x1), .val (.long x2), .second, .val (.int x3), .val (.long x4), .second, .val (.ref b149), .val (.int x2.toInt32.toInt8.toInt32), .val (.int (x2 >>> ((8 : Int32).toInt64 &&& 63)).toInt32.toInt8.toInt32), .val (.int (x2 >>> ((16 : Int32).toInt64 &&& 63)).toInt32.toInt8.toInt32), .val (.int (3 : Int32)), .unset, .unset, .unset, .unset, .unset, .unset] []))
      refine own_iload X151 hx hby at_104 rfl rfl ?_
      refine own_if_ne X151 hx hby at_106 (pcY := 117) (pcN := 109) (by decide) rfl (fun (hc267 : ¬ (3 : Int32) = (0 : Int32)) => ?_) (fun (hc267 : (3 : Int32) = (0 : Int32)) => False.elim (by exact absurd hc267 (by decide)))
      refine own_iload X151 hx hby at_117 rfl rfl ?_
      refine own_iconst X151 hx hby at_119 rfl (1 : Int32) rfl ?_
      refine own_icmp_ne X151 hx hby at_120 (pcY := 136) (pcN := 123) (by decide) rfl (fun (hc268 : ¬ (3 : Int32) = (1 : Int32)) => ?_) (fun (hc268 : (3 : Int32) = (1 : Int32)) => False.elim (by exact absurd hc268 (by decide)))
      refine own_iload X151 hx hby at_136 rfl rfl ?_
      refine own_iconst X151 hx hby at_138 rfl (2 : Int32) rfl ?_
      refine own_icmp_ne X151 hx hby at_139 (pcY := 160) (pcN := 142) (by decide) rfl (fun (hc269 : ¬ (3 : Int32) = (2 : Int32)) => ?_) (fun (hc269 : (3 : Int32) = (2 : Int32)) => False.elim (by exact absurd hc269 (by decide)))
      refine own_iconst X151 hx hby at_160 rfl (3 : Int32) rfl ?_
      have f271 := (((O.ext E149).wr W150 ge_b149).wr W151 ge_b149)
      refine own_newarrayE X151 hx hby hZ (aty := .byte) (hw _ tw_0) e151 (by decide) 3 (by decide) (by decide) (by decide) (by decide) "[B" (by decide) .byte rfl [(.int (0 : Int32)), (.int (0 : Int32)), (.int (0 : Int32))] rfl at_161 rfl (fun T270 h270 b270 k270 X270 e270 g270 E270 V270 A270 => ?_)
      have ge_b270 : n0 ≤ b270 := own_ge f271 g270
      have ne_b149_b270 : b149 ≠ b270 := own_lt V151.lt g270
      refine own_dup X270 hx hby at_163 rfl rfl ?_
      refine own_iconst X270 hx hby at_164 rfl (0 : Int32) rfl ?_
      refine own_iload X270 hx hby at_165 rfl rfl ?_
      refine own_bastore X270 hx hby hZ x2.toInt32.toInt8.toInt32 (own_narb _) e270 V270 (by decide) 0 rfl (show 0 < 3 by decide) [(.int x2.toInt32.toInt8.toInt32), (.int (0 : Int32)), (.int (0 : Int32))] rfl (fits_nar_byte _) N151 ge_b270 at_167 rfl (fun T272 h272 L272 X272 e272 W272 V272 N272 => ?_)
      refine own_dup X272 hx hby at_168 rfl rfl ?_
      refine own_iconst X272 hx hby at_169 rfl (1 : Int32) rfl ?_
      refine own_iload X272 hx hby at_170 rfl rfl ?_
      refine own_bastore X272 hx hby hZ (x2 >>> ((8 : Int32).toInt64 &&& 63)).toInt32.toInt8.toInt32 (own_narb _) e272 V272 (by decide) 1 rfl (show 1 < 3 by decide) [(.int x2.toInt32.toInt8.toInt32), (.int (x2 >>> ((8 : Int32).toInt64 &&& 63)).toInt32.toInt8.toInt32), (.int (0 : Int32))] rfl (fits_nar_byte _) N272 ge_b270 at_172 rfl (fun T273 h273 L273 X273 e273 W273 V273 N273 => ?_)
      refine own_dup X273 hx hby at_173 rfl rfl ?_
      refine own_iconst X273 hx hby at_174 rfl (2 : Int32) rfl ?_
      refine own_iload X273 hx hby at_175 rfl rfl ?_
      refine own_bastore X273 hx hby hZ (x2 >>> ((16 : Int32).toInt64 &&& 63)).toInt32.toInt8.toInt32 (own_narb _) e273 V273 (by decide) 2 rfl (show 2 < 3 by decide) [(.int x2.toInt32.toInt8.toInt32), (.int (x2 >>> ((8 : Int32).toInt64 &&& 63)).toInt32.toInt8.toInt32), (.int (x2 >>> ((16 : Int32).toInt64 &&& 63)).toInt32.toInt8.toInt32)] rfl (fits_nar_byte _) N273 ge_b270 at_177 rfl (fun T274 h274 L274 X274 e274 W274 V274 N274 => ?_)
      refine own_astore X274 hx hby at_178 rfl #[.val (.int x0), .val (.int x1), .val (.long x2), .second, .val (.int x3), .val (.long x4), .second, .val (.ref b149), .val (.int x2.toInt32.toInt8.toInt32), .val (.int (x2 >>> ((8 : Int32).toInt64 &&& 63)).toInt32.toInt8.toInt32), .val (.int (x2 >>> ((16 : Int32).toInt64 &&& 63)).toInt32.toInt8.toInt32), .val (.int (3 : Int32)), .val (.ref b270), .unset, .unset, .unset, .unset, .unset] rfl rfl ?_
      refine own_aload X274 hx hby at_180 rfl rfl rfl ?_
      refine own_aload X274 hx hby at_182 rfl rfl rfl ?_
      have f276 := ((((V151.ext E270).other W272 ne_b149_b270).other W273 ne_b149_b270).other W274 ne_b149_b270)
      have f277 := ((((f271.ext E270).wr W272 ge_b270).wr W273 ge_b270).wr W274 ge_b270)
      have f278 := ((((((A149.wr W150).wr W151).ext E270).wr W272).wr W273).wr W274)
      have f279 := (((A270.wr W272).wr W273).wr W274)
      refine own_static X274 hx hby hZ (argsL := [(.ref b270), (.ref b149)]) (rest := []) hown (hw _ tw_1) (hw _ tw_2) (hw _ tw_3) (hw _ tw_4) (by decide) (rm1 l Z a0 hw b270 b149 h274 n0 f277 f276 f278 V274 f279 (by decide) (by decide)) e274 (by rw [hml]; rfl) pd_9 rfl (by decide) (W := 0) (Nat.le_refl _) (by decide) (by decide) (by decide) at_184 rfl rfl (fun v275 T275 L275 X275 hQ275 => ?_)
      obtain ⟨b275, y275, rfl, N275q, K275, gq275, sq275, A275, gr275, sr275, Fb275, V275, Ay275, nby275⟩ := hQ275
      have ge_b275 := gq275
      have ge_y275 := gr275
      show Ends p.tables e below _ (T275.setTop (mkF m 187 #[.val (.int x0), .val (.int x1), .val (.long x2), .second, .val (.int x3), .val (.long x4), .second, .val (.ref b149), .val (.int x2.toInt32.toInt8.toInt32), .val (.int (x2 >>> ((8 : Int32).toInt64 &&& 63)).toInt32.toInt8.toInt32), .val (.int (x2 >>> ((16 : Int32).toInt64 &&& 63)).toInt32.toInt8.toInt32), .val (.int (3 : Int32)), .val (.ref b270), .unset, .unset, .unset, .unset, .unset] [(.ref b275)]))
      refine own_astore X275 hx hby at_187 rfl #[.val (.int x0), .val (.int x1), .val (.long x2), .second, .val (.int x3), .val (.long x4), .second, .val (.ref b149), .val (.int x2.toInt32.toInt8.toInt32), .val (.int (x2 >>> ((8 : Int32).toInt64 &&& 63)).toInt32.toInt8.toInt32), .val (.int (x2 >>> ((16 : Int32).toInt64 &&& 63)).toInt32.toInt8.toInt32), .val (.int (3 : Int32)), .val (.ref b270), .val (.ref b275), .unset, .unset, .unset, .unset] rfl rfl ?_
      refine own_aload X275 hx hby at_189 rfl rfl rfl ?_
      have f281 := (f276.keep K275 nin0)
      have f282 := (V274.keep K275 nin0)
      have f283 := (f277.keep K275 all0)
      refine own_virtual X275 hx hby hZ (Cn := "com/example/lyrebird/lyrebird/content/Content") (a := b275) (argsL := []) (rest := []) hown (hw _ tw_30) (hw _ tw_31) (hw _ tw_33) (hw _ tw_32) (hw _ tw_3) (hw _ tw_34) (by decide) (rm4_a l Z a0 hw b275 T275.heap n0 f283 Fb275 V275 Ay275 (by decide)) A275 rfl (by rw [hml]; rfl) pd_7 rfl (by decide) (W := 0) (Nat.le_refl _) (by decide) (by decide) (by decide) at_191 rfl rfl (fun v280 T280 L280 X280 hQ280 => ?_)
      obtain ⟨b280, q280, rfl, N280q, K280, gq280, sq280, A280, gr280, sr280, Fv280, V280, Aq280⟩ := hQ280
      have ge_b280 := gq280
      have ge_q280 := gr280
      show Ends p.tables e below _ (T280.setTop (mkF m 194 #[.val (.int x0), .val (.int x1), .val (.long x2), .second, .val (.int x3), .val (.long x4), .second, .val (.ref b149), .val (.int x2.toInt32.toInt8.toInt32), .val (.int (x2 >>> ((8 : Int32).toInt64 &&& 63)).toInt32.toInt8.toInt32), .val (.int (x2 >>> ((16 : Int32).toInt64 &&& 63)).toInt32.toInt8.toInt32), .val (.int (3 : Int32)), .val (.ref b270), .val (.ref b275), .unset, .unset, .unset, .unset] [(.ref b280)]))
      refine own_astore X280 hx hby at_194 rfl #[.val (.int x0), .val (.int x1), .val (.long x2), .second, .val (.int x3), .val (.long x4), .second, .val (.ref b149), .val (.int x2.toInt32.toInt8.toInt32), .val (.int (x2 >>> ((8 : Int32).toInt64 &&& 63)).toInt32.toInt8.toInt32), .val (.int (x2 >>> ((16 : Int32).toInt64 &&& 63)).toInt32.toInt8.toInt32), .val (.int (3 : Int32)), .val (.ref b270), .val (.ref b275), .val (.ref b280), .unset, .unset, .unset] rfl rfl ?_
      refine own_aload X280 hx hby at_196 rfl rfl rfl ?_
      refine own_virtual X280 hx hby hZ (Cn := "java/util/Optional") (a := b280) (argsL := []) (rest := []) hown (hw _ tw_52) (hw _ tw_53) (hw _ tw_55) (hw _ tw_54) (hw _ tw_37) (hw _ tw_56) (by decide) (rm8_r l Z a0 hw b280 T280.heap q280 Fv280) A280 rfl (by rw [hml]; rfl) pd_10 rfl (by decide) (W := 0) (Nat.le_refl _) (by decide) (by decide) (by decide) at_198 rfl rfl (fun v284 T284 L284 X284 hQ284 => ?_)
      obtain ⟨rfl, rfl, e284⟩ := hQ284
      show Ends p.tables e below _ (T284.setTop (mkF m 201 #[.val (.int x0), .val (.int x1), .val (.long x2), .second, .val (.int x3), .val (.long x4), .second, .val (.ref b149), .val (.int x2.toInt32.toInt8.toInt32), .val (.int (x2 >>> ((8 : Int32).toInt64 &&& 63)).toInt32.toInt8.toInt32), .val (.int (x2 >>> ((16 : Int32).toInt64 &&& 63)).toInt32.toInt8.toInt32), .val (.int (3 : Int32)), .val (.ref b270), .val (.ref b275), .val (.ref b280), .unset, .unset, .unset] [(.int (1 : Int32))]))
      refine own_if_ne X284 hx hby at_201 (pcY := 206) (pcN := 204) (by decide) rfl (fun (hc285 : ¬ (1 : Int32) = (0 : Int32)) => ?_) (fun (hc285 : (1 : Int32) = (0 : Int32)) => False.elim (by exact absurd hc285 (by decide)))
      refine own_aload X284 hx hby at_206 rfl rfl rfl ?_
      refine own_virtual X284 hx hby hZ (Cn := "java/util/Optional") (a := b280) (argsL := []) (rest := []) hown (hw _ tw_57) (hw _ tw_58) (hw _ tw_60) (hw _ tw_59) (hw _ tw_37) (hw _ tw_61) (by decide) (rm9 l Z a0 hw b280 T280.heap q280 Fv280) A280 e284 (by rw [hml]; rfl) pd_11 rfl (by decide) (W := 0) (Nat.le_refl _) (by decide) (by decide) (by decide) at_208 rfl rfl (fun v286 T286 L286 X286 hQ286 => ?_)
      obtain ⟨rfl, rfl, e286⟩ := hQ286
      show Ends p.tables e below _ (T286.setTop (mkF m 211 #[.val (.int x0), .val (.int x1), .val (.long x2), .second, .val (.int x3), .val (.long x4), .second, .val (.ref b149), .val (.int x2.toInt32.toInt8.toInt32), .val (.int (x2 >>> ((8 : Int32).toInt64 &&& 63)).toInt32.toInt8.toInt32), .val (.int (x2 >>> ((16 : Int32).toInt64 &&& 63)).toInt32.toInt8.toInt32), .val (.int (3 : Int32)), .val (.ref b270), .val (.ref b275), .val (.ref b280), .unset, .unset, .unset] [(.ref q280)]))
      refine own_checkcast X286 hx hby hZ hown (hw _ tw_62) e286 (Ins.self Aq280) at_211 rfl (fun T287 X287 e287 => ?_)
      refine own_astore X287 hx hby at_214 rfl #[.val (.int x0), .val (.int x1), .val (.long x2), .second, .val (.int x3), .val (.long x4), .second, .val (.ref b149), .val (.int x2.toInt32.toInt8.toInt32), .val (.int (x2 >>> ((8 : Int32).toInt64 &&& 63)).toInt32.toInt8.toInt32), .val (.int (x2 >>> ((16 : Int32).toInt64 &&& 63)).toInt32.toInt8.toInt32), .val (.int (3 : Int32)), .val (.ref b270), .val (.ref b275), .val (.ref b280), .val (.ref q280), .unset, .unset] rfl rfl ?_
      refine own_aload X287 hx hby at_216 rfl rfl rfl ?_
      refine own_iload X287 hx hby at_218 rfl rfl ?_
      refine own_iload X287 hx hby at_220 rfl rfl ?_
      refine own_iload X287 hx hby at_222 rfl rfl ?_
      refine own_iload X287 hx hby at_224 rfl rfl ?_
      refine own_static X287 hx hby hZ (argsL := [(.ref q280), (.int (3 : Int32)), (.int x2.toInt32.toInt8.toInt32), (.int (x2 >>> ((8 : Int32).toInt64 &&& 63)).toInt32.toInt8.toInt32), (.int (x2 >>> ((16 : Int32).toInt64 &&& 63)).toInt32.toInt8.toInt32)]) (rest := []) hown (hw _ tw_63) (hw _ tw_64) (hw _ tw_65) (hw _ tw_66) (by decide) (rm10_3 l Z a0 hw q280 x2.toInt32.toInt8.toInt32 (x2 >>> ((8 : Int32).toInt64 &&& 63)).toInt32.toInt8.toInt32 (x2 >>> ((16 : Int32).toInt64 &&& 63)).toInt32.toInt8.toInt32 T280.heap V280) e287 (by rw [hml]; rfl) pd_12 rfl (by decide) (W := 0) (Nat.le_refl _) (by decide) (by decide) (by decide) at_226 rfl rfl (fun v288 T288 L288 X288 hQ288 => ?_)
      obtain ⟨rfl, rfl, e288⟩ := hQ288
      show Ends p.tables e below _ (T288.setTop (mkF m 229 #[.val (.int x0), .val (.int x1), .val (.long x2), .second, .val (.int x3), .val (.long x4), .second, .val (.ref b149), .val (.int x2.toInt32.toInt8.toInt32), .val (.int (x2 >>> ((8 : Int32).toInt64 &&& 63)).toInt32.toInt8.toInt32), .val (.int (x2 >>> ((16 : Int32).toInt64 &&& 63)).toInt32.toInt8.toInt32), .val (.int (3 : Int32)), .val (.ref b270), .val (.ref b275), .val (.ref b280), .val (.ref q280), .unset, .unset] [(.int (1 : Int32))]))
      refine own_if_ne X288 hx hby at_229 (pcY := 234) (pcN := 232) (by decide) rfl (fun (hc289 : ¬ (1 : Int32) = (0 : Int32)) => ?_) (fun (hc289 : (1 : Int32) = (0 : Int32)) => False.elim (by exact absurd hc289 (by decide)))
      refine own_iload X288 hx hby at_234 rfl rfl ?_
      refine own_if_le X288 hx hby at_236 (pcY := 250) (pcN := 239) (by decide) rfl (fun (hc290 : 3 ≤ 0) => False.elim (by exact absurd hc290 (by decide))) (fun (hc290 : 0 < 3) => ?_)
      refine own_aload X288 hx hby at_239 rfl rfl rfl ?_
      refine own_iconst X288 hx hby at_241 rfl (0 : Int32) rfl ?_
      refine own_aload X288 hx hby at_242 rfl rfl rfl ?_
      refine own_iconst X288 hx hby at_244 rfl (0 : Int32) rfl ?_
      refine own_baload X288 hx hby hZ x2.toInt32.toInt8.toInt32 e288 V280 (by decide) rfl at_245 rfl ?_
      refine own_iconst X288 hx hby at_246 rfl (1 : Int32) rfl ?_
      refine own_iadd X288 hx hby at_247 rfl ?_
      refine own_i2b X288 hx hby at_248 rfl ?_
      refine own_bastore X288 hx hby hZ (x2.toInt32.toInt8.toInt32 + (1 : Int32)).toInt8.toInt32 (own_narb _) e288 V280 (by decide) 0 rfl (show 0 < 3 by decide) [(.int (x2.toInt32.toInt8.toInt32 + (1 : Int32)).toInt8.toInt32), (.int (x2 >>> ((8 : Int32).toInt64 &&& 63)).toInt32.toInt8.toInt32), (.int (x2 >>> ((16 : Int32).toInt64 &&& 63)).toInt32.toInt8.toInt32)] rfl (fits_nar_byte _) (Fr.app (Fr.app (Fr.app (Fr.app (Fr.app N274 N275q) N280q) (Fr.nil _)) (Fr.nil _)) (Fr.nil _)) ge_q280 at_249 rfl (fun T291 h291 L291 X291 e291 W291 V291 N291 => ?_)
      refine own_aload X291 hx hby at_250 rfl rfl rfl ?_
      have f293 := ((f281.keep K280 nin0).other W291 (Nat.ne_of_lt (Nat.lt_of_lt_of_le f281.lt sr280)))
      have f294 := ((f282.keep K280 nin0).other W291 (Nat.ne_of_lt (Nat.lt_of_lt_of_le f282.lt sr280)))
      have f295 := ((A275.keep K280).wr W291)
      have f296 := ((V275.keep K280 nin0).other W291 (Nat.ne_of_lt (Nat.lt_of_lt_of_le V275.lt sr280)))
      have f297 := (A280.wr W291)
      have f298 := ((f283.keep K280 all0).wr W291 ge_q280)
      have f299 := ((Fb275.keep K280 nin0).other W291 (Or.inl (Nat.ne_of_lt (Nat.lt_of_lt_of_le A275.lt sr280))))
      have f300 := ((Ay275.keep K280).wr W291)
      refine own_virtual X291 hx hby hZ (Cn := "com/example/lyrebird/lyrebird/content/Content") (a := b275) (argsL := []) (rest := []) hown (hw _ tw_30) (hw _ tw_31) (hw _ tw_33) (hw _ tw_32) (hw _ tw_3) (hw _ tw_34) (by decide) (rm4_a l Z a0 hw b275 h291 n0 f298 f299 f296 f300 (by decide)) f295 e291 (by rw [hml]; rfl) pd_7 rfl (by decide) (W := 0) (Nat.le_refl _) (by decide) (by decide) (by decide) at_252 rfl rfl (fun v292 T292 L292 X292 hQ292 => ?_)
      obtain ⟨b292, q292, rfl, N292q, K292, gq292, sq292, A292, gr292, sr292, Fv292, V292, Aq292⟩ := hQ292
      have ge_b292 := gq292
      have ge_q292 := gr292
      show Ends p.tables e below _ (T292.setTop (mkF m 255 #[.val (.int x0), .val (.int x1), .val (.long x2), .second, .val (.int x3), .val (.long x4), .second, .val (.ref b149), .val (.int x2.toInt32.toInt8.toInt32), .val (.int (x2 >>> ((8 : Int32).toInt64 &&& 63)).toInt32.toInt8.toInt32), .val (.int (x2 >>> ((16 : Int32).toInt64 &&& 63)).toInt32.toInt8.toInt32), .val (.int (3 : Int32)), .val (.ref b270), .val (.ref b275), .val (.ref b280), .val (.ref q280), .unset, .unset] [(.ref b292)]))
      refine own_astore X292 hx hby at_255 rfl #[.val (.int x0), .val (.int x1), .val (.long x2), .second, .val (.int x3), .val (.long x4), .second, .val (.ref b149), .val (.int x2.toInt32.toInt8.toInt32), .val (.int (x2 >>> ((8 : Int32).toInt64 &&& 63)).toInt32.toInt8.toInt32), .val (.int (x2 >>> ((16 : Int32).toInt64 &&& 63)).toInt32.toInt8.toInt32), .val (.int (3 : Int32)), .val (.ref b270), .val (.ref b275), .val (.ref b280), .val (.ref q280), .val (.ref b292), .unset] rfl rfl ?_
      refine own_aload X292 hx hby at_257 rfl rfl rfl ?_
      refine own_virtual X292 hx hby hZ (Cn := "java/util/Optional") (a := b292) (argsL := []) (rest := []) hown (hw _ tw_52) (hw _ tw_53) (hw _ tw_55) (hw _ tw_54) (hw _ tw_37) (hw _ tw_56) (by decide) (rm8_r l Z a0 hw b292 T292.heap q292 Fv292) A292 rfl (by rw [hml]; rfl) pd_10 rfl (by decide) (W := 0) (Nat.le_refl _) (by decide) (by decide) (by decide) at_259 rfl rfl (fun v301 T301 L301 X301 hQ301 => ?_)
      obtain ⟨rfl, rfl, e301⟩ := hQ301
      show Ends p.tables e below _ (T301.setTop (mkF m 262 #[.val (.int x0), .val (.int x1), .val (.long x2), .second, .val (.int x3), .val (.long x4), .second, .val (.ref b149), .val (.int x2.toInt32.toInt8.toInt32), .val (.int (x2 >>> ((8 : Int32).toInt64 &&& 63)).toInt32.toInt8.toInt32), .val (.int (x2 >>> ((16 : Int32).toInt64 &&& 63)).toInt32.toInt8.toInt32), .val (.int (3 : Int32)), .val (.ref b270), .val (.ref b275), .val (.ref b280), .val (.ref q280), .val (.ref b292), .unset] [(.int (1 : Int32))]))
      refine own_if_ne X301 hx hby at_262 (pcY := 267) (pcN := 265) (by decide) rfl (fun (hc302 : ¬ (1 : Int32) = (0 : Int32)) => ?_) (fun (hc302 : (1 : Int32) = (0 : Int32)) => False.elim (by exact absurd hc302 (by decide)))
      refine own_aload X301 hx hby at_267 rfl rfl rfl ?_
      refine own_virtual X301 hx hby hZ (Cn := "java/util/Optional") (a := b292) (argsL := []) (rest := []) hown (hw _ tw_57) (hw _ tw_58) (hw _ tw_60) (hw _ tw_59) (hw _ tw_37) (hw _ tw_61) (by decide) (rm9 l Z a0 hw b292 T292.heap q292 Fv292) A292 e301 (by rw [hml]; rfl) pd_11 rfl (by decide) (W := 0) (Nat.le_refl _) (by decide) (by decide) (by decide) at_269 rfl rfl (fun v303 T303 L303 X303 hQ303 => ?_)
      obtain ⟨rfl, rfl, e303⟩ := hQ303
      show Ends p.tables e below _ (T303.setTop (mkF m 272 #[.val (.int x0), .val (.int x1), .val (.long x2), .second, .val (.int x3), .val (.long x4), .second, .val (.ref b149), .val (.int x2.toInt32.toInt8.toInt32), .val (.int (x2 >>> ((8 : Int32).toInt64 &&& 63)).toInt32.toInt8.toInt32), .val (.int (x2 >>> ((16 : Int32).toInt64 &&& 63)).toInt32.toInt8.toInt32), .val (.int (3 : Int32)), .val (.ref b270), .val (.ref b275), .val (.ref b280), .val (.ref q280), .val (.ref b292), .unset] [(.ref q292)]))
      refine own_checkcast X303 hx hby hZ hown (hw _ tw_62) e303 (Ins.self Aq292) at_272 rfl (fun T304 X304 e304 => ?_)
      refine own_astore X304 hx hby at_275 rfl #[.val (.int x0), .val (.int x1), .val (.long x2), .second, .val (.int x3), .val (.long x4), .second, .val (.ref b149), .val (.int x2.toInt32.toInt8.toInt32), .val (.int (x2 >>> ((8 : Int32).toInt64 &&& 63)).toInt32.toInt8.toInt32), .val (.int (x2 >>> ((16 : Int32).toInt64 &&& 63)).toInt32.toInt8.toInt32), .val (.int (3 : Int32)), .val (.ref b270), .val (.ref b275), .val (.ref b280), .val (.ref q280), .val (.ref b292), .val (.ref q292)] rfl rfl ?_
      refine own_aload X304 hx hby at_277 rfl rfl rfl ?_
      refine own_aload X304 hx hby at_279 rfl rfl rfl ?_
      refine own_acmp_eq X304 hx hby at_281 (pcY := 304) (pcN := 284) (by decide) rfl rfl rfl (fun (hc305 : ((.ref q292) : Value) = (.ref q280)) => False.elim (by exact absurd (Value.ref.inj hc305) (Ne.symm (Nat.ne_of_lt (Nat.lt_of_lt_of_le V291.lt sr292))))) (fun (hc305 : ¬ ((.ref q292) : Value) = (.ref q280)) => ?_)
      refine own_aload X304 hx hby at_284 rfl rfl rfl ?_
      refine own_iload X304 hx hby at_286 rfl rfl ?_
      refine own_iload X304 hx hby at_288 rfl rfl ?_
      refine own_iload X304 hx hby at_290 rfl rfl ?_
      refine own_iload X304 hx hby at_292 rfl rfl ?_
      refine own_static X304 hx hby hZ (argsL := [(.ref q292), (.int (3 : Int32)), (.int x2.toInt32.toInt8.toInt32), (.int (x2 >>> ((8 : Int32).toInt64 &&& 63)).toInt32.toInt8.toInt32), (.int (x2 >>> ((16 : Int32).toInt64 &&& 63)).toInt32.toInt8.toInt32)]) (rest := []) hown (hw _ tw_63) (hw _ tw_64) (hw _ tw_65) (hw _ tw_66) (by decide) (rm10_3 l Z a0 hw q292 x2.toInt32.toInt8.toInt32 (x2 >>> ((8 : Int32).toInt64 &&& 63)).toInt32.toInt8.toInt32 (x2 >>> ((16 : Int32).toInt64 &&& 63)).toInt32.toInt8.toInt32 T292.heap V292) e304 (by rw [hml]; rfl) pd_12 rfl (by decide) (W := 0) (Nat.le_refl _) (by decide) (by decide) (by decide) at_294 rfl rfl (fun v306 T306 L306 X306 hQ306 => ?_)
      obtain ⟨rfl, rfl, e306⟩ := hQ306
      show Ends p.tables e below _ (T306.setTop (mkF m 297 #[.val (.int x0), .val (.int x1), .val (.long x2), .second, .val (.int x3), .val (.long x4), .second, .val (.ref b149), .val (.int x2.toInt32.toInt8.toInt32), .val (.int (x2 >>> ((8 : Int32).toInt64 &&& 63)).toInt32.toInt8.toInt32), .val (.int (x2 >>> ((16 : Int32).toInt64 &&& 63)).toInt32.toInt8.toInt32), .val (.int (3 : Int32)), .val (.ref b270), .val (.ref b275), .val (.ref b280), .val (.ref q280), .val (.ref b292), .val (.ref q292)] [(.int (1 : Int32))]))
      refine own_if_eq X306 hx hby at_297 (pcY := 304) (pcN := 300) (by decide) rfl (fun (hc307 : (1 : Int32) = (0 : Int32)) => False.elim (by exact absurd hc307 (by decide))) (fun (hc307 : ¬ (1 : Int32) = (0 : Int32)) => ?_)
      refine own_iconst X306 hx hby at_300 rfl (1 : Int32) rfl ?_
      refine own_goto X306 hx hby at_301 (pc' := 305) (by decide) ?_
      have f308 := (Nat.le_trans (Nat.le_trans (Nat.le_trans (Nat.le_trans (Nat.le_trans (Nat.le_trans (Nat.le_trans (Nat.le_trans (Nat.le_trans (Nat.le_trans (Nat.le_trans (Nat.le_refl _) E149.1) (Keep.of_wr W150).1) (Keep.of_wr W151).1) E270.1) (Keep.of_wr W272).1) (Keep.of_wr W273).1) (Keep.of_wr W274).1) K275.1) K280.1) (Keep.of_wr W291).1) K292.1)
      refine own_retW X306 hx hby hret hlk at_305 (.int (1 : Int32)) rfl (Or.inl ⟨rfl, by simp, _, rfl⟩) hS (by rw [show T306.heap = _ from e306]; exact f308) (by decide) (by decide) ?_
      exact ⟨rfl, (Fr.app (Fr.app (Fr.app (Fr.app N291 N292q) (Fr.nil _)) (Fr.nil _)) (Fr.nil _))⟩
  · -- pc 27: f
    have f310 := (((O.ext E149).wr W150 ge_b149).wr W151 ge_b149)
    refine own_new X151 hx hby hZ hown (hw _ tw_67) (hw _ tw_6) (hw _ tw_3) e151 (by decide) (by decide) at_30 rfl (fun T309 h309 b309 X309 e309 g309 E309 A309 D309 => ?_)
    have ge_b309 : n0 ≤ b309 := own_ge f310 g309
    have ne_b149_b309 : b149 ≠ b309 := own_lt V151.lt g309
    have F309_file : Fld Z h309 b309 "com/example/lyrebird/lyrebird/content/Content" "file" "Ljava/lang/String;" .null := D309 (Or.inr (hw _ tw_14)) (ty := (.object "java/lang/String")) (by decide)
    have F309_bytes : Fld Z h309 b309 "com/example/lyrebird/lyrebird/content/Content" "bytes" "[B" .null := D309 (Or.inr (hw _ tw_25)) (ty := (.array .byte)) (by decide)
    have F309_length : Fld Z h309 b309 "com/example/lyrebird/lyrebird/content/Content" "length" "J" (.long (0 : Int64)) := D309 (Or.inr (hw _ tw_27)) (ty := .long) (by decide)
    have F309_md5 : Fld Z h309 b309 "com/example/lyrebird/lyrebird/content/Content" "md5" "[B" .null := D309 (Or.inr (hw _ tw_29)) (ty := (.array .byte)) (by decide)
    refine own_dup X309 hx hby at_33 rfl rfl ?_
    refine own_iload X309 hx hby at_34 rfl rfl ?_
    refine own_sipush X309 hx hby at_36 rfl (255 : Int32) rfl ?_
    refine own_iand X309 hx hby at_39 rfl ?_
    refine own_i2c X309 hx hby at_40 rfl ?_
    have f312 := (f310.ext E309)
    refine own_static X309 hx hby hZ (argsL := [(.int (x3 &&& (255 : Int32)).toUInt32.toUInt16.toUInt32.toInt32)]) (rest := [(.ref b309), (.ref b309)]) hown (hw _ tw_68) (hw _ tw_69) (hw _ tw_70) (hw _ tw_71) (by decide) (rm11 l Z a0 hw (x3 &&& (255 : Int32)).toUInt32.toUInt16.toUInt32.toInt32 h309 n0 G f312 (own_mc _)) e309 (by rw [hml]; rfl) pd_13 rfl (by decide) (W := 2) (Nat.le_refl _) (by decide) (by decide) (by decide) at_41 rfl rfl (fun v311 T311 L311 X311 hQ311 => ?_)
    obtain ⟨b311, rfl, N311q, K311, gq311, sq311, A311⟩ := hQ311
    show Ends p.tables e below _ (T311.setTop (mkF m 44 #[.val (.int x0), .val (.int x1), .val (.long x2), .second, .val (.int x3), .val (.long x4), .second, .val (.ref b149), .unset, .unset, .unset, .unset, .unset, .unset, .unset, .unset, .unset, .unset] [(.ref b311), (.ref b309), (.ref b309)]))
    refine own_lload X311 hx hby at_44 rfl rfl ?_
    refine own_ldc2J X311 hx hby hZ hown (hw _ tw_91) at_46 rfl ?_
    refine own_land X311 hx hby at_49 rfl ?_
    refine own_aload X311 hx hby at_50 rfl rfl rfl ?_
    have f314 := (F309_file.keep K311 nin0)
    have f315 := (F309_bytes.keep K311 nin0)
    have f316 := (F309_length.keep K311 nin0)
    have f317 := (F309_md5.keep K311 nin0)
    have f318 := (f312.keep K311 all0)
    have f319 := (A309.keep K311)
    have f320 := ((V151.ext E309).keep K311 nin0)
    have f321 := ((((A149.wr W150).wr W151).ext E309).keep K311)
    have f322 := (Nat.le_trans (Nat.le_trans (Nat.le_trans (Nat.le_trans (Nat.le_trans (Nat.le_refl _) E149.1) (Keep.of_wr W150).1) (Keep.of_wr W151).1) E309.1) K311.1)
    refine own_specialS X311 hx hby hZ (a := b309) (argsL := [(.ref b311), (.long (x4 &&& (9223372036854775807 : Int64))), (.ref b149)]) (rest := [(.ref b309)]) hown rfl (hw _ tw_92) (hw _ tw_93) (hw _ tw_3) (hw _ tw_94) (by decide) (rm15 l Z a0 hw b309 b311 (x4 &&& (9223372036854775807 : Int64)) b149 T311.heap n0 f318 ge_b309 f319 f314 f315 f316 f317 own_len A311 f320 f321 (Ne.symm ne_b149_b309)) rfl hS f322 (by rw [hml]; rfl) pd_14 rfl (by decide) (W := 1) (Nat.le_refl _) (by decide) (by decide) (by decide) at_52 rfl rfl (fun v313 T313 L313 X313 hS hZ hown hQ313 => ?_)
    obtain ⟨rfl, N313q, K313, Fb313⟩ := hQ313
    show Ends p.tables e below _ (T313.setTop (mkF m 55 #[.val (.int x0), .val (.int x1), .val (.long x2), .second, .val (.int x3), .val (.long x4), .second, .val (.ref b149), .unset, .unset, .unset, .unset, .unset, .unset, .unset, .unset, .unset, .unset] [(.ref b309)]))
    refine own_astore X313 hx hby at_55 rfl #[.val (.int x0), .val (.int x1), .val (.long x2), .second, .val (.int x3), .val (.long x4), .second, .val (.ref b149), .val (.ref b309), .unset, .unset, .unset, .unset, .unset, .unset, .unset, .unset, .unset] rfl rfl ?_
    refine own_aload X313 hx hby at_57 rfl rfl rfl ?_
    have f324 := (f318.keep K313 (allS ge_b309 all0))
    have f325 := (f319.keep K313)
    refine own_virtual X313 hx hby hZ (Cn := "com/example/lyrebird/lyrebird/content/Content") (a := b309) (argsL := []) (rest := []) hown (hw _ tw_30) (hw _ tw_31) (hw _ tw_33) (hw _ tw_32) (hw _ tw_3) (hw _ tw_34) (by decide) (rm4_b l Z a0 hw b309 T313.heap n0 G f324 Fb313) f325 rfl (by rw [hml]; rfl) pd_7 rfl (by decide) (W := 0) (Nat.le_refl _) (by decide) (by decide) (by decide) at_59 rfl rfl (fun v323 T323 L323 X323 hQ323 => ?_)
    obtain ⟨rfl, rfl, e323⟩ := hQ323
    show Ends p.tables e below _ (T323.setTop (mkF m 62 #[.val (.int x0), .val (.int x1), .val (.long x2), .second, .val (.int x3), .val (.long x4), .second, .val (.ref b149), .val (.ref b309), .unset, .unset, .unset, .unset, .unset, .unset, .unset, .unset, .unset] [(.ref aE)]))
    refine own_astore X323 hx hby at_62 rfl #[.val (.int x0), .val (.int x1), .val (.long x2), .second, .val (.int x3), .val (.long x4), .second, .val (.ref b149), .val (.ref b309), .val (.ref aE), .unset, .unset, .unset, .unset, .unset, .unset, .unset, .unset] rfl rfl ?_
    refine own_aload X323 hx hby at_64 rfl rfl rfl ?_
    refine own_virtual X323 hx hby hZ (Cn := "java/util/Optional") (a := aE) (argsL := []) (rest := []) hown (hw _ tw_52) (hw _ tw_53) (hw _ tw_55) (hw _ tw_54) (hw _ tw_37) (hw _ tw_56) (by decide) (rm8_n l Z a0 hw aE T313.heap 0 (G.2.2.2.2.ext f324.2)) (G.2.2.2.1.ext f324.2) e323 (by rw [hml]; rfl) pd_10 rfl (by decide) (W := 0) (Nat.le_refl _) (by decide) (by decide) (by decide) at_66 rfl rfl (fun v326 T326 L326 X326 hQ326 => ?_)
    obtain ⟨rfl, rfl, e326⟩ := hQ326
    show Ends p.tables e below _ (T326.setTop (mkF m 69 #[.val (.int x0), .val (.int x1), .val (.long x2), .second, .val (.int x3), .val (.long x4), .second, .val (.ref b149), .val (.ref b309), .val (.ref aE), .unset, .unset, .unset, .unset, .unset, .unset, .unset, .unset] [(.int (0 : Int32))]))
    refine own_if_ne X326 hx hby at_69 (pcY := 76) (pcN := 72) (by decide) rfl (fun (hc327 : ¬ (0 : Int32) = (0 : Int32)) => False.elim (by exact absurd hc327 (by decide))) (fun (hc327 : (0 : Int32) = (0 : Int32)) => ?_)
    refine own_iconst X326 hx hby at_72 rfl (1 : Int32) rfl ?_
    refine own_goto X326 hx hby at_73 (pc' := 77) (by decide) ?_
    refine own_retW X326 hx hby hret hlk at_77 (.int (1 : Int32)) rfl (Or.inl ⟨rfl, by simp, _, rfl⟩) hS (by rw [show T326.heap = _ from e326]; exact (Nat.le_refl _)) (by decide) (by decide) ?_
    exact ⟨rfl, (Fr.app (Fr.app (Fr.app (Fr.app N151 N311q) N313q) (Fr.nil _)) (Fr.nil _))⟩
set_option maxRecDepth 65536 in
set_option maxHeartbeats 40000000 in
theorem comes_1 {Post : Tables → Env → Array Value → State → Outcome → State → Prop} (hpost : ∀ tb e args s v u, (limb_1_1.after args s (.returned v) u = true ∧ limb_1_2.after args s (.returned v) u = true ∧ True) → ReturnedEndW s (.returned v) u (Jvm.fieldLocs frame_1_writes args s ++ Jvm.arrayLocs frame_1_arrays args s ++ Jvm.staticLocs frame_1_statics s) 32 1216 → Post tb e args s (.returned v) u) :
    ArmFor flags0 classFile x code maxLocals ret World_1 tables_1 room_1 Calls_1 rest_1 Pre_1 Post := by
  intro l hfl _ _ p e ha hc hk s m args below hf hA hF happ hP
  obtain ⟨hcalls, hrest, hpre⟩ := hP
  obtain ⟨-, -, -, hnamed, -, -, -, hat⟩ := (Spec.applies_iff hf).mp happ
  obtain ⟨hg, hn⟩ := and_e (Cond.before_iff.mp (show (Jvm.Cond.and given_1 narrow_1).before args s = true from hpre))
  obtain ⟨hcount, hg0⟩ := and_e hg
  obtain ⟨hv0, hg1⟩ := and_e hg0
  obtain ⟨hv1, hg2⟩ := and_e hg1
  obtain ⟨hv2, hg3⟩ := and_e hg2
  obtain ⟨hv3, hg4⟩ := and_e hg3
  have hv4 := hg4
  obtain ⟨w0, w1, w2, w3, w4, rfl⟩ : ∃ w0 w1 w2 w3 w4 : Value, args = #[w0, w1, w2, w3, w4] := by
    have hs : args.size = 5 := by simpa [Cond.value, given_1] using hcount
    obtain ⟨L⟩ := args
    match L, hs with
    | [w0, w1, w2, w3, w4], _ => exact ⟨w0, w1, w2, w3, w4, rfl⟩
  have hw := fun d (hd : d ∈ tables_1) => atoms_spec (ws := Jvm.Cond.code x code maxLocals ret :: tables_1) hat d (List.mem_cons_of_mem _ hd)
  have hfit : Fit s := fun {y c} hc i hi => by
    obtain ⟨ha, rfl⟩ := Array.getElem?_eq_some_iff.mp hc
    have q := List.all_eq_true.mp ((Array.all_eq_true_iff_forall_mem.mp hF) _ (Array.getElem_mem ha)) i (List.mem_range.mpr hi)
    simpa [Array.getElem?_eq_getElem hi] using q
  obtain ⟨hsets, hown0⟩ := atoms_of _ (rest_1_c_eq ▸ (show rest_1_c.before _ s = true from hrest))
  have hr0 := Cond.before_iff.mp hown0
  obtain ⟨i0, ei0⟩ := is_v hv0
  obtain rfl : w0 = (.int i0) := Option.some.inj ei0
  obtain ⟨i1, ei1⟩ := is_v hv1
  obtain rfl : w1 = (.int i1) := Option.some.inj ei1
  obtain ⟨i2, ei2⟩ := isL_v hv2
  obtain rfl : w2 = (.long i2) := Option.some.inj ei2
  obtain ⟨i3, ei3⟩ := is_v hv3
  obtain rfl : w3 = (.int i3) := Option.some.inj ei3
  obtain ⟨i4, ei4⟩ := isL_v hv4
  obtain rfl : w4 = (.long i4) := Option.some.inj ei4
  have n3 := not_v (Cond.before_iff.mp (hsets _ (List.mem_of_getElem? (i := 2) rfl)))
  obtain ⟨z, ez⟩ := is_v (Cond.before_iff.mp (hsets _ (List.mem_of_getElem? (i := 1) rfl)))
  have S1 : Sta s s.heap "java/lang/String" "COMPACT_STRINGS" "Z" (.int z) := Sta.start ez (Or.inl (hsets _ (List.mem_of_getElem? (i := 0) rfl)))
  have c1 : ¬ (z = (0 : Int32)) := gotF (Cond.eq_ints ez (Term.int_eval (0))) n3
  have nE := Cond.before_iff.mp (hsets _ (List.mem_of_getElem? (i := 11) rfl))
  obtain ⟨aE, eE⟩ := exa_v nE
  have S2 : Sta s s.heap "java/util/Optional" "EMPTY" "Ljava/util/Optional;" (.ref aE) := Sta.start eE (Or.inl (hsets _ (List.mem_of_getElem? (i := 10) rfl)))
  have E2 : Exa s s.heap aE "java/util/Optional" := Exa.start eE nE
  have F2 : Fld s s.heap aE "java/util/Optional" "value" "Ljava/lang/Object;" .null := Fld.start ((fld_at eE).symm.trans (null_v (Cond.before_iff.mp (hsets _ (List.mem_of_getElem? (i := 12) rfl)))))
  have G : OwnG s z aE := ⟨S1, c1, S2, E2, F2⟩
  obtain ⟨n, o, h1, h2, h3, _, L, rfl, ⟨rfl, N⟩, hq⟩ := rm0 l s _ hw i0 i1 i2 i3 i4 s.heap s.heap.size G (Old.start s) p e ha hc hk s m _ below hf ((Spec.applies_iff_loose hf).mp happ).1 ⟨rfl, State.Warmed39.refl s, rfl⟩ trivial
  refine ⟨n, _, h1, h2, h3, hpost _ _ _ _ _ _ ⟨Cond.after_iff.mpr rfl, Cond.after_iff.mpr (eq_i res_at (Term.int_eval (1)) rfl), trivial⟩ ⟨hq.1, hq.2.1, hq.2.2.1, (hq.2.2.2.sift fun y hy => Or.inr (N y hy)).mono (by decide) (by decide)⟩⟩
theorem main_1_1 : Claimed_1_1 := comes_1 fun _ _ _ _ _ _ h hF => ⟨h.1, hF⟩
theorem main_1_2 : Claimed_1_2 := comes_1 fun _ _ _ _ _ _ h hF => ⟨h.2.1, hF⟩
end Jvm.Pilot.@@N@@
namespace Jvm.Pilot.@@N@@
open Jvm Jvm.ClassFile Sem Op Lib Jvm.Free Jvm.Stand Jvm.Pilot.@@N@@.Jvm.D
/-! MADE BY PROGRAM (witnessworld.py) out of the Statement's table words and the real class files: 19 classes; the members and pool entries that the words name. The judged class is class 1, her method 1. -/
namespace start1
open Jvm.ClassFile
def u (s : String) : CpInfo := .utf8 (stringToUtf16 s)
/-- a pool by its gaps: so many unusable entries, then the entry; so many at the end -/
def gap : Nat → List CpInfo → List CpInfo
  | 0, r => r
  | n + 1, r => .unusable :: gap n r
def poolList (es : List (Nat × CpInfo)) (last : Nat) : List CpInfo := es.foldr (fun e r => gap e.1 (e.2 :: r)) (gap last [])
def pool (es : List (Nat × CpInfo)) (last : Nat) : Array CpInfo := ⟨poolList es last⟩
def fileOf (pool : Array CpInfo) (this : Nat) (attrs : Array Attribute := #[]) (ms : Array MethodInfo := #[]) (fl : Nat := 33) (sup : Nat := 0) (ifs : Array Nat := #[]) (fds : Array FieldInfo := #[]) : ClassFile where
  minorVersion := 0
  majorVersion := 65
  constantPool := pool
  accessFlags := fl
  thisClass := this
  superClass := sup
  interfaces := ifs
  fields := fds
  methods := ms
  attributes := attrs
def plain (name : String) (sup : Option ClassId) : Class where
  name := name
  kind := .ordinary
  loader := none
  accessFlags := 33
  super := sup
  interfaces := #[]
  cf := none
  fields := #[]
  methods := #[]
  instanceTypes := #[]
  staticTypes := #[]
  resolved := #[]
  callSites := []
  init := .initialized
  statics := none
  mirror := none

def pool0 : Array CpInfo := pool [(5, u "<init>"), (0, u "()V"), (1, .class_ 10), (1, u "java/lang/Object"), (85, u "clone"), (0, u "()Ljava/lang/Object;")] 26

def k0c0 : Code := { maxStack := 0, maxLocals := 1, code := object_method_1_code, exceptionTable := #[], attributes := #[] }
def k0m0 : Method := { name := "<init>", desc := "()V", sig := { parameters := [], returnType := none }, accessFlags := 1, code := some k0c0 }
def k0m1 : Method := { name := "clone", desc := "()Ljava/lang/Object;", sig := { parameters := [], returnType := some (.object "java/lang/Object") }, accessFlags := 260, code := none }
/-- java/lang/Object -/
def k0 : Class := { plain "java/lang/Object" none with
  accessFlags := 33
  interfaces := #[]
  cf := some (fileOf pool0 8 #[] #[{ accessFlags := 1, nameIndex := 5, descriptorIndex := 6, attributes := #[] }, { accessFlags := 260, nameIndex := 96, descriptorIndex := 97, attributes := #[] }] 33 0 #[] #[])
  fields := #[]
  methods := #[k0m0, k0m1]
  instanceTypes := #[]
  staticTypes := #[]
  resolved := Array.replicate 124 none
  statics := none }

def pool1 : Array CpInfo := pool [(2, .class_ 4), (1, u "java/lang/Object"), (0, u "<init>"), (0, u "()V"), (0, .class_ 8), (0, u "com/example/lyrebird/lyrebird/content/Content"), (0, .methodref 10 11), (0, .class_ 12), (0, .nameAndType 13 14), (0, u "java/lang/String"), (0, u "valueOf"), (0, u "(C)Ljava/lang/String;"), (2, .long 9223372036854775807), (1, .methodref 7 20), (0, .nameAndType 5 21), (0, u "(Ljava/lang/String;J[B)V"), (0, .methodref 7 23), (0, .nameAndType 24 25), (0, u "bytes"), (0, u "()Ljava/util/Optional;"), (0, .methodref 27 28), (0, .class_ 29), (0, .nameAndType 30 31), (0, u "java/util/Optional"), (0, u "isPresent"), (0, u "()Z"), (0, .methodref 7 33), (0, .nameAndType 34 35), (0, u "inline"), (0, u "([B[B)Lcom/example/lyrebird/lyrebird/content/Content;"), (0, .methodref 27 37), (0, .nameAndType 38 39), (0, u "get"), (0, u "()Ljava/lang/Object;"), (0, .class_ 41), (0, u "[B"), (0, .methodref 43 44), (0, .class_ 45), (0, .nameAndType 46 47), (0, u "com/example/lyrebird/lyrebird/content/ContentBytesPinLaw"), (0, u "same"), (0, u "([BIBBB)Z"), (2, u "law"), (0, u "(IIJIJ)Z")] 3

def k1m0 : Method := { name := "<init>", desc := "()V", sig := { parameters := [], returnType := none }, accessFlags := 1, code := none }
def k1c1 : Code := { maxStack := 7, maxLocals := 18, code := code, exceptionTable := #[], attributes := #[] }
def k1m1 : Method := { name := "law", desc := "(IIJIJ)Z", sig := { parameters := [.int, .int, .long, .int, .long], returnType := some .boolean }, accessFlags := 9, code := some k1c1 }
def k1c2 : Code := { maxStack := 2, maxLocals := 5, code := method_3_code, exceptionTable := #[], attributes := #[] }
def k1m2 : Method := { name := "same", desc := "([BIBBB)Z", sig := { parameters := [(.array .byte), .int, .byte, .byte, .byte], returnType := some .boolean }, accessFlags := 10, code := some k1c2 }
/-- com/example/lyrebird/lyrebird/content/ContentBytesPinLaw -/
def k1 : Class := { plain "com/example/lyrebird/lyrebird/content/ContentBytesPinLaw" (some 0) with
  accessFlags := 49
  interfaces := #[]
  cf := some (fileOf pool1 43 #[] #[{ accessFlags := 1, nameIndex := 5, descriptorIndex := 6, attributes := #[] }, { accessFlags := 9, nameIndex := 50, descriptorIndex := 51, attributes := #[] }, { accessFlags := 10, nameIndex := 46, descriptorIndex := 47, attributes := #[] }] 49 2 #[] #[])
  fields := #[]
  methods := #[k1m0, k1m1, k1m2]
  instanceTypes := #[]
  staticTypes := #[]
  resolved := Array.replicate 55 none
  statics := none }

def pool2 : Array CpInfo := pool [(1, .string 2), (0, u "id"), (0, .methodref 4 5), (0, .class_ 6), (0, .nameAndType 7 8), (0, u "java/util/Objects"), (0, u "requireNonNull"), (0, u "(Ljava/lang/Object;Ljava/lang/String;)Ljava/lang/Object;"), (0, .class_ 10), (0, u "java/lang/String"), (0, .methodref 12 13), (0, .class_ 14), (0, .nameAndType 15 16), (0, u "com/example/lyrebird/lyrebird/content/Content"), (0, u "<init>"), (0, u "(Ljava/lang/String;[BJ[B)V"), (0, .methodref 18 19), (0, .class_ 20), (0, .nameAndType 15 21), (0, u "java/lang/Object"), (0, u "()V"), (12, .fieldref 12 35), (0, .nameAndType 36 37), (0, u "file"), (0, u "Ljava/lang/String;"), (0, .methodref 39 40), (0, .class_ 41), (0, .nameAndType 42 43), (0, u "[B"), (0, u "clone"), (0, u "()Ljava/lang/Object;"), (0, .fieldref 12 45), (0, .nameAndType 46 41), (0, u "bytes"), (0, .fieldref 12 48), (0, .nameAndType 49 50), (0, u "length"), (0, u "J"), (0, .fieldref 12 52), (0, .nameAndType 53 41), (0, u "md5"), (1, .class_ 57), (1, u "java/util/Optional"), (1, u "(Ljava/lang/Object;)Ljava/util/Optional;"), (0, .methodref 55 61), (0, .nameAndType 62 63), (0, u "empty"), (0, u "()Ljava/util/Optional;"), (0, .methodref 55 65), (0, .nameAndType 66 59), (0, u "of"), (26, u "(Ljava/lang/String;J[B)V"), (3, u "inline"), (0, u "([B[B)Lcom/example/lyrebird/lyrebird/content/Content;")] 29

def k2c0 : Code := { maxStack := 6, maxLocals := 5, code := prog_2_method_1_code, exceptionTable := #[], attributes := #[] }
def k2m0 : Method := { name := "<init>", desc := "(Ljava/lang/String;J[B)V", sig := { parameters := [(.object "java/lang/String"), .long, (.array .byte)], returnType := none }, accessFlags := 1, code := some k2c0 }
def k2c1 : Code := { maxStack := 4, maxLocals := 6, code := prog_2_method_2_code, exceptionTable := #[], attributes := #[] }
def k2m1 : Method := { name := "<init>", desc := "(Ljava/lang/String;[BJ[B)V", sig := { parameters := [(.object "java/lang/String"), (.array .byte), .long, (.array .byte)], returnType := none }, accessFlags := 2, code := some k2c1 }
def k2c2 : Code := { maxStack := 7, maxLocals := 2, code := prog_2_method_3_code, exceptionTable := #[], attributes := #[] }
def k2m2 : Method := { name := "inline", desc := "([B[B)Lcom/example/lyrebird/lyrebird/content/Content;", sig := { parameters := [(.array .byte), (.array .byte)], returnType := some (.object "com/example/lyrebird/lyrebird/content/Content") }, accessFlags := 9, code := some k2c2 }
def k2c3 : Code := { maxStack := 1, maxLocals := 1, code := prog_2_method_5_code, exceptionTable := #[], attributes := #[] }
def k2m3 : Method := { name := "bytes", desc := "()Ljava/util/Optional;", sig := { parameters := [], returnType := some (.object "java/util/Optional") }, accessFlags := 1, code := some k2c3 }
/-- com/example/lyrebird/lyrebird/content/Content -/
def k2 : Class := { plain "com/example/lyrebird/lyrebird/content/Content" (some 0) with
  accessFlags := 49
  interfaces := #[]
  cf := some (fileOf pool2 12 #[] #[{ accessFlags := 1, nameIndex := 15, descriptorIndex := 93, attributes := #[] }, { accessFlags := 2, nameIndex := 15, descriptorIndex := 16, attributes := #[] }, { accessFlags := 9, nameIndex := 97, descriptorIndex := 98, attributes := #[] }, { accessFlags := 1, nameIndex := 46, descriptorIndex := 63, attributes := #[] }] 49 18 #[] #[{ accessFlags := 18, nameIndex := 36, descriptorIndex := 37, attributes := #[] }, { accessFlags := 18, nameIndex := 46, descriptorIndex := 41, attributes := #[] }, { accessFlags := 18, nameIndex := 49, descriptorIndex := 50, attributes := #[] }, { accessFlags := 18, nameIndex := 53, descriptorIndex := 41, attributes := #[] }])
  fields := #[{ name := "file", type := (.object "java/lang/String"), accessFlags := 18, slot := 0, constantValue := 0 }, { name := "bytes", type := (.array .byte), accessFlags := 18, slot := 1, constantValue := 0 }, { name := "length", type := .long, accessFlags := 18, slot := 2, constantValue := 0 }, { name := "md5", type := (.array .byte), accessFlags := 18, slot := 3, constantValue := 0 }]
  methods := #[k2m0, k2m1, k2m2, k2m3]
  instanceTypes := #[(.object "java/lang/String"), (.array .byte), .long, (.array .byte)]
  staticTypes := #[]
  resolved := Array.replicate 128 none
  statics := none }

def pool3 : Array CpInfo := pool [(1, .class_ 2), (0, u "java/lang/Cloneable"), (0, .class_ 4), (0, u "java/lang/Object")] 2

/-- java/lang/Cloneable -/
def k3 : Class := { plain "java/lang/Cloneable" (some 0) with
  accessFlags := 1537
  interfaces := #[]
  cf := some (fileOf pool3 1 #[] #[] 1537 3 #[] #[])
  fields := #[]
  methods := #[]
  instanceTypes := #[]
  staticTypes := #[]
  resolved := Array.replicate 7 none
  statics := none }

def pool4 : Array CpInfo := pool [(1, .fieldref 2 3), (0, .class_ 4), (0, .nameAndType 5 6), (0, u "java/util/Optional"), (0, u "EMPTY"), (0, u "Ljava/util/Optional;"), (0, .methodref 8 9), (0, .class_ 10), (0, .nameAndType 11 12), (0, u "java/lang/Object"), (0, u "<init>"), (0, u "()V"), (0, .fieldref 2 14), (0, .nameAndType 15 16), (0, u "value"), (0, u "Ljava/lang/Object;"), (0, .methodref 18 19), (0, .class_ 20), (0, .nameAndType 21 22), (0, u "java/util/Objects"), (0, u "requireNonNull"), (0, u "(Ljava/lang/Object;)Ljava/lang/Object;"), (0, .methodref 2 24), (0, .nameAndType 11 25), (0, u "(Ljava/lang/Object;)V"), (20, u "()Z"), (8, u "empty"), (0, u "()Ljava/util/Optional;"), (8, u "(Ljava/lang/Object;)Ljava/util/Optional;"), (2, u "isPresent"), (4, u "get"), (0, u "()Ljava/lang/Object;"), (7, u "of")] 104

def k4c0 : Code := { maxStack := 1, maxLocals := 1, code := jdk_32_method_1_code, exceptionTable := #[], attributes := #[] }
def k4m0 : Method := { name := "empty", desc := "()Ljava/util/Optional;", sig := { parameters := [], returnType := some (.object "java/util/Optional") }, accessFlags := 9, code := some k4c0 }
def k4c1 : Code := { maxStack := 2, maxLocals := 2, code := jdk_32_method_2_code, exceptionTable := #[], attributes := #[] }
def k4m1 : Method := { name := "<init>", desc := "(Ljava/lang/Object;)V", sig := { parameters := [(.object "java/lang/Object")], returnType := none }, accessFlags := 2, code := some k4c1 }
def k4c2 : Code := { maxStack := 3, maxLocals := 1, code := jdk_32_method_3_code, exceptionTable := #[], attributes := #[] }
def k4m2 : Method := { name := "of", desc := "(Ljava/lang/Object;)Ljava/util/Optional;", sig := { parameters := [(.object "java/lang/Object")], returnType := some (.object "java/util/Optional") }, accessFlags := 9, code := some k4c2 }
def k4c3 : Code := { maxStack := 3, maxLocals := 1, code := jdk_32_method_5_code, exceptionTable := #[], attributes := #[] }
def k4m3 : Method := { name := "get", desc := "()Ljava/lang/Object;", sig := { parameters := [], returnType := some (.object "java/lang/Object") }, accessFlags := 1, code := some k4c3 }
def k4c4 : Code := { maxStack := 1, maxLocals := 1, code := jdk_32_method_6_code, exceptionTable := #[], attributes := #[] }
def k4m4 : Method := { name := "isPresent", desc := "()Z", sig := { parameters := [], returnType := some .boolean }, accessFlags := 1, code := some k4c4 }
/-- java/util/Optional -/
def k4 : Class := { plain "java/util/Optional" (some 0) with
  accessFlags := 49
  interfaces := #[]
  cf := some (fileOf pool4 2 #[] #[{ accessFlags := 9, nameIndex := 55, descriptorIndex := 56, attributes := #[] }, { accessFlags := 2, nameIndex := 11, descriptorIndex := 25, attributes := #[] }, { accessFlags := 9, nameIndex := 82, descriptorIndex := 65, attributes := #[] }, { accessFlags := 1, nameIndex := 73, descriptorIndex := 74, attributes := #[] }, { accessFlags := 1, nameIndex := 68, descriptorIndex := 46, attributes := #[] }] 49 8 #[] #[{ accessFlags := 26, nameIndex := 5, descriptorIndex := 6, attributes := #[] }, { accessFlags := 18, nameIndex := 15, descriptorIndex := 16, attributes := #[] }])
  fields := #[{ name := "EMPTY", type := (.object "java/util/Optional"), accessFlags := 26, slot := 0, constantValue := 0 }, { name := "value", type := (.object "java/lang/Object"), accessFlags := 18, slot := 0, constantValue := 0 }]
  methods := #[k4m0, k4m1, k4m2, k4m3, k4m4]
  instanceTypes := #[(.object "java/lang/Object")]
  staticTypes := #[(.object "java/util/Optional")]
  resolved := Array.replicate 187 none
  statics := some 0 }

def pool5 : Array CpInfo := pool [(2, .class_ 4), (1, u "java/lang/Object"), (0, u "<init>"), (0, u "()V"), (35, .class_ 44), (1, u "java/util/Objects"), (0, u "requireNonNull"), (0, u "(Ljava/lang/Object;)Ljava/lang/Object;"), (47, u "(Ljava/lang/Object;Ljava/lang/String;)Ljava/lang/Object;")] 89

def k5m0 : Method := { name := "<init>", desc := "()V", sig := { parameters := [], returnType := none }, accessFlags := 2, code := none }
def k5c1 : Code := { maxStack := 2, maxLocals := 1, code := jdk_31_method_10_code, exceptionTable := #[], attributes := #[] }
def k5m1 : Method := { name := "requireNonNull", desc := "(Ljava/lang/Object;)Ljava/lang/Object;", sig := { parameters := [(.object "java/lang/Object")], returnType := some (.object "java/lang/Object") }, accessFlags := 9, code := some k5c1 }
def k5c2 : Code := { maxStack := 3, maxLocals := 2, code := jdk_31_method_11_code, exceptionTable := #[], attributes := #[] }
def k5m2 : Method := { name := "requireNonNull", desc := "(Ljava/lang/Object;Ljava/lang/String;)Ljava/lang/Object;", sig := { parameters := [(.object "java/lang/Object"), (.object "java/lang/String")], returnType := some (.object "java/lang/Object") }, accessFlags := 9, code := some k5c2 }
/-- java/util/Objects -/
def k5 : Class := { plain "java/util/Objects" (some 0) with
  accessFlags := 49
  interfaces := #[]
  cf := some (fileOf pool5 42 #[] #[{ accessFlags := 2, nameIndex := 5, descriptorIndex := 6, attributes := #[] }, { accessFlags := 9, nameIndex := 45, descriptorIndex := 46, attributes := #[] }, { accessFlags := 9, nameIndex := 45, descriptorIndex := 94, attributes := #[] }] 49 2 #[] #[])
  fields := #[]
  methods := #[k5m0, k5m1, k5m2]
  instanceTypes := #[]
  staticTypes := #[]
  resolved := Array.replicate 184 none
  statics := none }

def pool6 : Array CpInfo := pool [(1, .class_ 2), (0, u "java/io/Serializable"), (0, .class_ 4), (0, u "java/lang/Object")] 2

/-- java/io/Serializable -/
def k6 : Class := { plain "java/io/Serializable" (some 0) with
  accessFlags := 1537
  interfaces := #[]
  cf := some (fileOf pool6 1 #[] #[] 1537 3 #[] #[])
  fields := #[]
  methods := #[]
  instanceTypes := #[]
  staticTypes := #[]
  resolved := Array.replicate 7 none
  statics := none }

def pool7 : Array CpInfo := pool [(1, .class_ 2), (0, u "java/lang/Comparable"), (0, .class_ 4), (0, u "java/lang/Object")] 7

/-- java/lang/Comparable -/
def k7 : Class := { plain "java/lang/Comparable" (some 0) with
  accessFlags := 1537
  interfaces := #[]
  cf := some (fileOf pool7 1 #[] #[] 1537 3 #[] #[])
  fields := #[]
  methods := #[]
  instanceTypes := #[]
  staticTypes := #[]
  resolved := Array.replicate 12 none
  statics := none }

def pool8 : Array CpInfo := pool [(2, .class_ 4), (1, u "java/lang/CharSequence"), (42, .class_ 48), (0, u "java/lang/CharSequence$1CodePointIterator"), (10, .class_ 60), (0, u "java/lang/CharSequence$1CharIterator"), (5, .class_ 67), (0, u "java/lang/Object")] 63

/-- java/lang/CharSequence -/
def k8 : Class := { plain "java/lang/CharSequence" (some 0) with
  accessFlags := 1537
  interfaces := #[]
  cf := some (fileOf pool8 2 #[.nestMembers #[47, 59]] #[] 1537 66 #[] #[])
  fields := #[]
  methods := #[]
  instanceTypes := #[]
  staticTypes := #[]
  resolved := Array.replicate 131 none
  statics := none }

def pool9 : Array CpInfo := pool [(1, .class_ 2), (0, u "java/lang/constant/Constable"), (0, .class_ 4), (0, u "java/lang/Object")] 6

/-- java/lang/constant/Constable -/
def k9 : Class := { plain "java/lang/constant/Constable" (some 0) with
  accessFlags := 1537
  interfaces := #[]
  cf := some (fileOf pool9 1 #[] #[] 1537 3 #[] #[])
  fields := #[]
  methods := #[]
  instanceTypes := #[]
  staticTypes := #[]
  resolved := Array.replicate 11 none
  statics := none }

def pool10 : Array CpInfo := pool [(1, .class_ 2), (0, u "java/lang/constant/ConstantDesc"), (0, .class_ 4), (0, u "java/lang/Object")] 32

/-- java/lang/constant/ConstantDesc -/
def k10 : Class := { plain "java/lang/constant/ConstantDesc" (some 0) with
  accessFlags := 1537
  interfaces := #[]
  cf := some (fileOf pool10 1 #[] #[] 1537 3 #[] #[])
  fields := #[]
  methods := #[]
  instanceTypes := #[]
  staticTypes := #[]
  resolved := Array.replicate 37 none
  statics := none }

def pool11 : Array CpInfo := pool [(1, .methodref 2 3), (0, .class_ 4), (0, .nameAndType 5 6), (0, u "java/lang/Object"), (0, u "<init>"), (0, u "()V"), (2, .fieldref 10 11), (0, .class_ 12), (0, .nameAndType 13 14), (0, u "java/lang/String"), (0, u "value"), (0, u "[B"), (0, .fieldref 10 16), (0, .nameAndType 17 18), (0, u "coder"), (0, u "B"), (2, u "hash"), (0, u "I"), (2, u "hashIsZero"), (0, u "Z"), (11, .fieldref 10 39), (0, .nameAndType 40 26), (0, u "COMPACT_STRINGS"), (12, u "toBytes"), (53, .class_ 109), (1, u "java/lang/StringLatin1"), (99, .methodref 10 210), (0, .nameAndType 5 211), (0, u "([BB)V"), (157, u "(C)Z"), (205, .class_ 576), (0, u "java/lang/CharSequence"), (22, u "CASE_INSENSITIVE_ORDER"), (0, u "Ljava/util/Comparator;"), (181, u "valueOf"), (0, u "(C)Ljava/lang/String;"), (231, .methodref 107 1016), (0, .nameAndType 1017 369), (0, u "canEncode"), (0, .methodref 107 1019), (0, .nameAndType 53 1020), (0, u "(C)[B"), (80, u "serialPersistentFields"), (0, u "[Ljava/io/ObjectStreamField;"), (0, .class_ 1104), (0, u "java/lang/String$CaseInsensitiveComparator"), (1, .class_ 1107), (0, u "java/io/Serializable"), (0, .class_ 1109), (0, u "java/lang/Comparable"), (0, .class_ 1111), (0, u "java/lang/constant/Constable"), (0, .class_ 1113), (0, u "java/lang/constant/ConstantDesc"), (2, u "serialVersionUID"), (0, u "J"), (3, u "REPL"), (0, u "C"), (2, u "LATIN1"), (1, u "UTF16")] 323

def k11m0 : Method := { name := "<init>", desc := "()V", sig := { parameters := [], returnType := none }, accessFlags := 1, code := none }
def k11c1 : Code := { maxStack := 4, maxLocals := 1, code := jdk_42_method_139_code, exceptionTable := #[], attributes := #[] }
def k11m1 : Method := { name := "valueOf", desc := "(C)Ljava/lang/String;", sig := { parameters := [.char], returnType := some (.object "java/lang/String") }, accessFlags := 9, code := some k11c1 }
def k11c2 : Code := { maxStack := 2, maxLocals := 3, code := jdk_42_method_151_code, exceptionTable := #[], attributes := #[] }
def k11m2 : Method := { name := "<init>", desc := "([BB)V", sig := { parameters := [(.array .byte), .byte], returnType := none }, accessFlags := 0, code := some k11c2 }
/-- java/lang/String -/
def k11 : Class := { plain "java/lang/String" (some 0) with
  accessFlags := 49
  interfaces := #[6, 7, 8, 9, 10]
  cf := some (fileOf pool11 10 #[.nestMembers #[1103]] #[{ accessFlags := 1, nameIndex := 5, descriptorIndex := 6, attributes := #[] }, { accessFlags := 9, nameIndex := 782, descriptorIndex := 783, attributes := #[] }, { accessFlags := 0, nameIndex := 5, descriptorIndex := 211, attributes := #[] }] 49 2 #[1106, 1108, 575, 1110, 1112] #[{ accessFlags := 18, nameIndex := 13, descriptorIndex := 14, attributes := #[] }, { accessFlags := 18, nameIndex := 17, descriptorIndex := 18, attributes := #[] }, { accessFlags := 2, nameIndex := 21, descriptorIndex := 22, attributes := #[] }, { accessFlags := 2, nameIndex := 25, descriptorIndex := 26, attributes := #[] }, { accessFlags := 26, nameIndex := 1116, descriptorIndex := 1117, attributes := #[] }, { accessFlags := 24, nameIndex := 40, descriptorIndex := 26, attributes := #[] }, { accessFlags := 26, nameIndex := 1101, descriptorIndex := 1102, attributes := #[] }, { accessFlags := 26, nameIndex := 1121, descriptorIndex := 1122, attributes := #[] }, { accessFlags := 25, nameIndex := 599, descriptorIndex := 600, attributes := #[] }, { accessFlags := 24, nameIndex := 1125, descriptorIndex := 18, attributes := #[] }, { accessFlags := 24, nameIndex := 1127, descriptorIndex := 18, attributes := #[] }])
  fields := #[{ name := "value", type := (.array .byte), accessFlags := 18, slot := 0, constantValue := 0 }, { name := "coder", type := .byte, accessFlags := 18, slot := 1, constantValue := 0 }, { name := "hash", type := .int, accessFlags := 2, slot := 2, constantValue := 0 }, { name := "hashIsZero", type := .boolean, accessFlags := 2, slot := 3, constantValue := 0 }, { name := "serialVersionUID", type := .long, accessFlags := 26, slot := 0, constantValue := 0 }, { name := "COMPACT_STRINGS", type := .boolean, accessFlags := 24, slot := 1, constantValue := 0 }, { name := "serialPersistentFields", type := (.array (.object "java/io/ObjectStreamField")), accessFlags := 26, slot := 2, constantValue := 0 }, { name := "REPL", type := .char, accessFlags := 26, slot := 3, constantValue := 0 }, { name := "CASE_INSENSITIVE_ORDER", type := (.object "java/util/Comparator"), accessFlags := 25, slot := 4, constantValue := 0 }, { name := "LATIN1", type := .byte, accessFlags := 24, slot := 5, constantValue := 0 }, { name := "UTF16", type := .byte, accessFlags := 24, slot := 6, constantValue := 0 }]
  methods := #[k11m0, k11m1, k11m2]
  instanceTypes := #[(.array .byte), .byte, .int, .boolean]
  staticTypes := #[.long, .boolean, (.array (.object "java/io/ObjectStreamField")), .char, (.object "java/util/Comparator"), .byte, .byte]
  resolved := Array.replicate 1451 none
  statics := some 1 }

def pool12 : Array CpInfo := pool [(4, .class_ 6), (1, u "java/lang/Object"), (0, u "<init>"), (0, u "()V"), (5, .class_ 16), (1, u "java/lang/StringLatin1"), (73, u "canEncode"), (14, u "(C)Z"), (15, u "$assertionsDisabled"), (0, u "Z"), (98, .class_ 223), (1, u "java/lang/StringLatin1$LinesSpliterator"), (156, u "toBytes"), (1, u "(C)[B"), (7, .class_ 391), (0, u "java/lang/StringLatin1$CharsSpliterator")] 3

def k12m0 : Method := { name := "<init>", desc := "()V", sig := { parameters := [], returnType := none }, accessFlags := 0, code := none }
def k12c1 : Code := { maxStack := 2, maxLocals := 1, code := jdk_43_method_3_code, exceptionTable := #[], attributes := #[] }
def k12m1 : Method := { name := "canEncode", desc := "(C)Z", sig := { parameters := [.char], returnType := some .boolean }, accessFlags := 9, code := some k12c1 }
def k12c2 : Code := { maxStack := 4, maxLocals := 1, code := jdk_43_method_46_code, exceptionTable := #[], attributes := #[] }
def k12m2 : Method := { name := "toBytes", desc := "(C)[B", sig := { parameters := [.char], returnType := some (.array .byte) }, accessFlags := 9, code := some k12c2 }
/-- java/lang/StringLatin1 -/
def k12 : Class := { plain "java/lang/StringLatin1" (some 0) with
  accessFlags := 48
  interfaces := #[]
  cf := some (fileOf pool12 14 #[.nestMembers #[390, 221]] #[{ accessFlags := 0, nameIndex := 7, descriptorIndex := 8, attributes := #[] }, { accessFlags := 9, nameIndex := 90, descriptorIndex := 105, attributes := #[] }, { accessFlags := 9, nameIndex := 380, descriptorIndex := 382, attributes := #[] }] 48 4 #[] #[{ accessFlags := 4120, nameIndex := 121, descriptorIndex := 122, attributes := #[] }])
  fields := #[{ name := "$assertionsDisabled", type := .boolean, accessFlags := 4120, slot := 0, constantValue := 0 }]
  methods := #[k12m0, k12m1, k12m2]
  instanceTypes := #[]
  staticTypes := #[.boolean]
  resolved := Array.replicate 395 none
  statics := none }

def pool13 : Array CpInfo := pool [(2, .class_ 4), (1, u "java/lang/Object"), (0, u "<init>"), (0, u "()V"), (17, .class_ 26), (1, u "jdk/internal/util/Preconditions"), (28, .class_ 56), (0, u "jdk/internal/util/Preconditions$4"), (57, .class_ 115), (0, u "jdk/internal/util/Preconditions$1"), (7, u "SIOOBE_FORMATTER"), (0, u "Ljava/util/function/BiFunction;"), (0, .class_ 126), (0, u "jdk/internal/util/Preconditions$2"), (3, u "AIOOBE_FORMATTER"), (0, .class_ 132), (0, u "jdk/internal/util/Preconditions$3"), (3, u "IOOBE_FORMATTER")] 57

def k13m0 : Method := { name := "<init>", desc := "()V", sig := { parameters := [], returnType := none }, accessFlags := 1, code := none }
/-- jdk/internal/util/Preconditions -/
def k13 : Class := { plain "jdk/internal/util/Preconditions" (some 0) with
  accessFlags := 33
  interfaces := #[]
  cf := some (fileOf pool13 24 #[.nestMembers #[55, 131, 125, 114]] #[{ accessFlags := 1, nameIndex := 5, descriptorIndex := 6, attributes := #[] }] 33 2 #[] #[{ accessFlags := 25, nameIndex := 123, descriptorIndex := 124, attributes := #[] }, { accessFlags := 25, nameIndex := 130, descriptorIndex := 124, attributes := #[] }, { accessFlags := 25, nameIndex := 136, descriptorIndex := 124, attributes := #[] }])
  fields := #[{ name := "SIOOBE_FORMATTER", type := (.object "java/util/function/BiFunction"), accessFlags := 25, slot := 0, constantValue := 0 }, { name := "AIOOBE_FORMATTER", type := (.object "java/util/function/BiFunction"), accessFlags := 25, slot := 1, constantValue := 0 }, { name := "IOOBE_FORMATTER", type := (.object "java/util/function/BiFunction"), accessFlags := 25, slot := 2, constantValue := 0 }]
  methods := #[k13m0]
  instanceTypes := #[]
  staticTypes := #[(.object "java/util/function/BiFunction"), (.object "java/util/function/BiFunction"), (.object "java/util/function/BiFunction")]
  resolved := Array.replicate 194 none
  statics := some 2 }

def pool14 : Array CpInfo := pool [(9, u "<init>"), (6, .class_ 18), (1, u "java/lang/Object"), (0, u "()V"), (1, .class_ 23), (1, u "jdk/internal/util/ArraysSupport"), (0, u "LOG2_ARRAY_LONG_INDEX_SCALE"), (0, u "I"), (2, u "U"), (0, u "Ljdk/internal/misc/Unsafe;"), (8, u "BIG_ENDIAN"), (0, u "Z"), (8, u "LOG2_BYTE_BIT_SIZE"), (4, u "LOG2_ARRAY_INT_INDEX_SCALE"), (54, u "JLA"), (0, u "Ljdk/internal/access/JavaLangAccess;"), (11, u "LOG2_ARRAY_BOOLEAN_INDEX_SCALE"), (9, u "LOG2_ARRAY_BYTE_INDEX_SCALE"), (5, u "LOG2_ARRAY_CHAR_INDEX_SCALE"), (5, u "LOG2_ARRAY_SHORT_INDEX_SCALE"), (18, u "LOG2_ARRAY_FLOAT_INDEX_SCALE"), (24, u "LOG2_ARRAY_DOUBLE_INDEX_SCALE"), (89, u "T_BOOLEAN"), (2, u "T_CHAR"), (1, u "T_FLOAT"), (1, u "T_DOUBLE"), (1, u "T_BYTE"), (1, u "T_SHORT"), (1, u "T_INT"), (1, u "T_LONG"), (1, u "SOFT_MAX_ARRAY_LENGTH")] 83

def k14m0 : Method := { name := "<init>", desc := "()V", sig := { parameters := [], returnType := none }, accessFlags := 2, code := none }
/-- jdk/internal/util/ArraysSupport -/
def k14 : Class := { plain "jdk/internal/util/ArraysSupport" (some 0) with
  accessFlags := 33
  interfaces := #[]
  cf := some (fileOf pool14 21 #[] #[{ accessFlags := 2, nameIndex := 9, descriptorIndex := 19, attributes := #[] }] 33 16 #[] #[{ accessFlags := 24, nameIndex := 28, descriptorIndex := 29, attributes := #[] }, { accessFlags := 26, nameIndex := 38, descriptorIndex := 39, attributes := #[] }, { accessFlags := 25, nameIndex := 121, descriptorIndex := 25, attributes := #[] }, { accessFlags := 25, nameIndex := 131, descriptorIndex := 25, attributes := #[] }, { accessFlags := 25, nameIndex := 137, descriptorIndex := 25, attributes := #[] }, { accessFlags := 25, nameIndex := 143, descriptorIndex := 25, attributes := #[] }, { accessFlags := 25, nameIndex := 53, descriptorIndex := 25, attributes := #[] }, { accessFlags := 25, nameIndex := 24, descriptorIndex := 25, attributes := #[] }, { accessFlags := 25, nameIndex := 162, descriptorIndex := 25, attributes := #[] }, { accessFlags := 25, nameIndex := 187, descriptorIndex := 25, attributes := #[] }, { accessFlags := 26, nameIndex := 48, descriptorIndex := 25, attributes := #[] }, { accessFlags := 25, nameIndex := 277, descriptorIndex := 25, attributes := #[] }, { accessFlags := 25, nameIndex := 280, descriptorIndex := 25, attributes := #[] }, { accessFlags := 25, nameIndex := 282, descriptorIndex := 25, attributes := #[] }, { accessFlags := 25, nameIndex := 284, descriptorIndex := 25, attributes := #[] }, { accessFlags := 25, nameIndex := 286, descriptorIndex := 25, attributes := #[] }, { accessFlags := 25, nameIndex := 288, descriptorIndex := 25, attributes := #[] }, { accessFlags := 25, nameIndex := 290, descriptorIndex := 25, attributes := #[] }, { accessFlags := 25, nameIndex := 292, descriptorIndex := 25, attributes := #[] }, { accessFlags := 26, nameIndex := 108, descriptorIndex := 109, attributes := #[] }, { accessFlags := 25, nameIndex := 294, descriptorIndex := 25, attributes := #[] }])
  fields := #[{ name := "U", type := (.object "jdk/internal/misc/Unsafe"), accessFlags := 24, slot := 0, constantValue := 0 }, { name := "BIG_ENDIAN", type := .boolean, accessFlags := 26, slot := 1, constantValue := 0 }, { name := "LOG2_ARRAY_BOOLEAN_INDEX_SCALE", type := .int, accessFlags := 25, slot := 2, constantValue := 0 }, { name := "LOG2_ARRAY_BYTE_INDEX_SCALE", type := .int, accessFlags := 25, slot := 3, constantValue := 0 }, { name := "LOG2_ARRAY_CHAR_INDEX_SCALE", type := .int, accessFlags := 25, slot := 4, constantValue := 0 }, { name := "LOG2_ARRAY_SHORT_INDEX_SCALE", type := .int, accessFlags := 25, slot := 5, constantValue := 0 }, { name := "LOG2_ARRAY_INT_INDEX_SCALE", type := .int, accessFlags := 25, slot := 6, constantValue := 0 }, { name := "LOG2_ARRAY_LONG_INDEX_SCALE", type := .int, accessFlags := 25, slot := 7, constantValue := 0 }, { name := "LOG2_ARRAY_FLOAT_INDEX_SCALE", type := .int, accessFlags := 25, slot := 8, constantValue := 0 }, { name := "LOG2_ARRAY_DOUBLE_INDEX_SCALE", type := .int, accessFlags := 25, slot := 9, constantValue := 0 }, { name := "LOG2_BYTE_BIT_SIZE", type := .int, accessFlags := 26, slot := 10, constantValue := 0 }, { name := "T_BOOLEAN", type := .int, accessFlags := 25, slot := 11, constantValue := 0 }, { name := "T_CHAR", type := .int, accessFlags := 25, slot := 12, constantValue := 0 }, { name := "T_FLOAT", type := .int, accessFlags := 25, slot := 13, constantValue := 0 }, { name := "T_DOUBLE", type := .int, accessFlags := 25, slot := 14, constantValue := 0 }, { name := "T_BYTE", type := .int, accessFlags := 25, slot := 15, constantValue := 0 }, { name := "T_SHORT", type := .int, accessFlags := 25, slot := 16, constantValue := 0 }, { name := "T_INT", type := .int, accessFlags := 25, slot := 17, constantValue := 0 }, { name := "T_LONG", type := .int, accessFlags := 25, slot := 18, constantValue := 0 }, { name := "JLA", type := (.object "jdk/internal/access/JavaLangAccess"), accessFlags := 26, slot := 19, constantValue := 0 }, { name := "SOFT_MAX_ARRAY_LENGTH", type := .int, accessFlags := 25, slot := 20, constantValue := 0 }]
  methods := #[k14m0]
  instanceTypes := #[]
  staticTypes := #[(.object "jdk/internal/misc/Unsafe"), .boolean, .int, .int, .int, .int, .int, .int, .int, .int, .int, .int, .int, .int, .int, .int, .int, .int, .int, (.object "jdk/internal/access/JavaLangAccess"), .int]
  resolved := Array.replicate 378 none
  statics := none }

/-- the primitive byte -/
def k15 : Class := { plain "byte" none with kind := .primitive 'B', accessFlags := 0x411 }
/-- [B -/
def k16 : Class := { plain "[B" (some 0) with kind := .array 15 .byte, interfaces := #[3, 6], accessFlags := 1041 }

/-- the primitive int -/
def k17 : Class := { plain "int" none with kind := .primitive 'I', accessFlags := 0x411 }
/-- [I -/
def k18 : Class := { plain "[I" (some 0) with kind := .array 17 .int, interfaces := #[3, 6], accessFlags := 1041 }

def heap : Heap := #[{ cls := 4, slots := #[.ref 3], vm := .statics 4 },
  { cls := 11, slots := #[.long 0, .int 1, .null, .int 0, .null, .int 0, .int 0], vm := .statics 11 },
  { cls := 13, slots := #[.null, .null, .null], vm := .statics 13 },
  { cls := 4, slots := #[.null], vm := .none }]
def classes : Array Class := #[k0, k1, k2, k3, k4, k5, k6, k7, k8, k9, k10, k11, k12, k13, k14, k15, k16, k17, k18]
def interned : List (Array UInt16 × Addr) := []
def slotsUsed : Nat := 12
def theMethod : MethodId := ⟨1, 1⟩
def args0 : Array Value := #[.int 5, .int 5, .long 5, .int 5, .long 5]
def aboutOver (below : List Frame) : State where
  vm := { classes := classes, interned := interned.toArray }
  heap := heap
  slotsUsed := slotsUsed
  threads := #[{ frames := .invoking theMethod args0 :: below }]
def below0 : List Frame := [.native { method := ⟨0, 0⟩, args := #[] }]
def about1 : State := aboutOver below0
def p0 : Program := .bare "" "" ""
def e0 : Env := launch0.env 0 0 0
theorem w_frames : about1.frames = Frame.invoking theMethod args0 :: below0 := rfl
set_option maxRecDepth 65536 in
theorem w_args : argsFit about1.vm theMethod args0 = true := by decide +kernel
set_option maxRecDepth 65536 in
theorem w_heap : heapFits about1 = true := by decide +kernel
set_option maxRecDepth 65536 in
theorem w_runnable : about1.curStatus? = some .runnable := by decide +kernel
set_option maxRecDepth 65536 in
theorem w_alone : about1.alone = true := by decide +kernel
set_option maxRecDepth 65536 in
theorem w_named : about1.methodNamed? x = some theMethod := by decide +kernel
set_option maxRecDepth 65536 in
theorem w_hears : about1.hears theMethod below0 = true := by decide +kernel
set_option maxRecDepth 65536 in
theorem w_ripe : about1.ripe theMethod args0 below0 = true := by decide +kernel
theorem w_running : about1.status = .running := rfl
set_option maxRecDepth 65536 in
theorem w_room : about1.hasRoom e0.platform room_1 = true :=
  launch0.hasRoom_least _ room_1 (by decide +kernel) (by decide +kernel) (by decide +kernel) (by decide +kernel) (by decide +kernel) (by decide +kernel)
theorem allAtoms_all (ts : List Jvm.Cond) (a : Array Jvm.Value) (st : Jvm.State) : (allAtoms ts).before a st = ts.all (fun c => c.before a st) := by
  induction ts with
  | nil => rfl
  | cons c t ih =>
    show (Jvm.Cond.and c (allAtoms t)).before a st = _
    rw [Jvm.Cond.before_and, ih, List.all_cons]
def words1 : List Jvm.Cond := Jvm.Cond.code x code maxLocals ret :: tables_1
/-- a 'code' word, met by the world's own term for the bytes: nothing is compared byte by byte -/
theorem code_word {y : MethodName} {bytes : ByteArray} {mx : Nat} {rt : Option FieldType} {a : Array Value} {s : State} {m : MethodId} {meth : Method} {c : Code} (h1 : s.methodNamed? y = some m) (h2 : s.vm.method? m = some meth) (h3 : meth.code = some c) (h4 : c.code = bytes)
    (h5 : (c.maxLocals == mx && c.exceptionTable.isEmpty && decide (c.maxStack ≤ mostOperands) && decide (meth.sig.returnType = rt) && !meth.locks && decide (parseMethodDescriptor y.desc = some meth.sig)) = true) : (Jvm.Cond.code y bytes mx rt).before a s = true := by
  simp only [Bool.and_eq_true, beq_iff_eq, Bool.not_eq_true', decide_eq_true_eq] at h5
  obtain ⟨⟨⟨⟨⟨g1, g2⟩, g3⟩, g4⟩, g5⟩, g6⟩ := h5
  simp [Cond.before, Cond.holds, Cond.value, h1, h2, h3, h4, g1, g2, g3, g4, g5, g6]
def isCode : Jvm.Cond → Bool
  | .code _ _ _ _ => true
  | _ => false
theorem all_split {L : List Jvm.Cond} {P : Jvm.Cond → Bool} (h1 : L.all (fun c => isCode c || P c) = true) (h2 : ∀ c ∈ L.filter isCode, P c = true) : L.all P = true := by
  refine List.all_eq_true.mpr fun c hc => ?_
  have h := List.all_eq_true.mp h1 c hc
  rcases Bool.eq_false_or_eq_true (isCode c) with hi | hi
  · exact h2 c (List.mem_filter.mpr ⟨hc, hi⟩)
  · simpa [hi] using h
set_option maxRecDepth 65536 in
theorem w_c0 : (Jvm.Cond.code x code maxLocals ret).before args0 about1 = true := code_word (m := ⟨1, 1⟩) (meth := k1m1) (c := k1c1) (by decide +kernel) rfl rfl rfl (by decide +kernel)
set_option maxRecDepth 65536 in
theorem w_c1 : (Jvm.Cond.code ({ cls := "com/example/lyrebird/lyrebird/content/Content", name := "inline", desc := "([B[B)Lcom/example/lyrebird/lyrebird/content/Content;" } : Jvm.MethodName) prog_2_method_3_code (2 : Nat) (Option.some (Jvm.ClassFile.FieldType.object "com/example/lyrebird/lyrebird/content/Content"))).before args0 about1 = true := code_word (m := ⟨2, 2⟩) (meth := k2m2) (c := k2c2) (by decide +kernel) rfl rfl rfl (by decide +kernel)
set_option maxRecDepth 65536 in
theorem w_c2 : (Jvm.Cond.code ({ cls := "com/example/lyrebird/lyrebird/content/Content", name := "<init>", desc := "(Ljava/lang/String;[BJ[B)V" } : Jvm.MethodName) prog_2_method_2_code (6 : Nat) (Option.none : Option Jvm.ClassFile.FieldType)).before args0 about1 = true := code_word (m := ⟨2, 1⟩) (meth := k2m1) (c := k2c1) (by decide +kernel) rfl rfl rfl (by decide +kernel)
set_option maxRecDepth 65536 in
theorem w_c3 : (Jvm.Cond.code ({ cls := "java/lang/Object", name := "<init>", desc := "()V" } : Jvm.MethodName) object_method_1_code (1 : Nat) (Option.none : Option Jvm.ClassFile.FieldType)).before args0 about1 = true := code_word (m := ⟨0, 0⟩) (meth := k0m0) (c := k0c0) (by decide +kernel) rfl rfl rfl (by decide +kernel)
set_option maxRecDepth 65536 in
theorem w_c4 : (Jvm.Cond.code ({ cls := "com/example/lyrebird/lyrebird/content/Content", name := "bytes", desc := "()Ljava/util/Optional;" } : Jvm.MethodName) prog_2_method_5_code (1 : Nat) (Option.some (Jvm.ClassFile.FieldType.object "java/util/Optional"))).before args0 about1 = true := code_word (m := ⟨2, 3⟩) (meth := k2m3) (c := k2c3) (by decide +kernel) rfl rfl rfl (by decide +kernel)
set_option maxRecDepth 65536 in
theorem w_c5 : (Jvm.Cond.code ({ cls := "java/util/Optional", name := "of", desc := "(Ljava/lang/Object;)Ljava/util/Optional;" } : Jvm.MethodName) jdk_32_method_3_code (1 : Nat) (Option.some (Jvm.ClassFile.FieldType.object "java/util/Optional"))).before args0 about1 = true := code_word (m := ⟨4, 2⟩) (meth := k4m2) (c := k4c2) (by decide +kernel) rfl rfl rfl (by decide +kernel)
set_option maxRecDepth 65536 in
theorem w_c6 : (Jvm.Cond.code ({ cls := "java/util/Objects", name := "requireNonNull", desc := "(Ljava/lang/Object;)Ljava/lang/Object;" } : Jvm.MethodName) jdk_31_method_10_code (1 : Nat) (Option.some (Jvm.ClassFile.FieldType.object "java/lang/Object"))).before args0 about1 = true := code_word (m := ⟨5, 1⟩) (meth := k5m1) (c := k5c1) (by decide +kernel) rfl rfl rfl (by decide +kernel)
set_option maxRecDepth 65536 in
theorem w_c7 : (Jvm.Cond.code ({ cls := "java/util/Optional", name := "<init>", desc := "(Ljava/lang/Object;)V" } : Jvm.MethodName) jdk_32_method_2_code (2 : Nat) (Option.none : Option Jvm.ClassFile.FieldType)).before args0 about1 = true := code_word (m := ⟨4, 1⟩) (meth := k4m1) (c := k4c1) (by decide +kernel) rfl rfl rfl (by decide +kernel)
set_option maxRecDepth 65536 in
theorem w_c8 : (Jvm.Cond.code ({ cls := "java/util/Optional", name := "isPresent", desc := "()Z" } : Jvm.MethodName) jdk_32_method_6_code (1 : Nat) (Option.some Jvm.ClassFile.FieldType.boolean)).before args0 about1 = true := code_word (m := ⟨4, 4⟩) (meth := k4m4) (c := k4c4) (by decide +kernel) rfl rfl rfl (by decide +kernel)
set_option maxRecDepth 65536 in
theorem w_c9 : (Jvm.Cond.code ({ cls := "java/util/Optional", name := "get", desc := "()Ljava/lang/Object;" } : Jvm.MethodName) jdk_32_method_5_code (1 : Nat) (Option.some (Jvm.ClassFile.FieldType.object "java/lang/Object"))).before args0 about1 = true := code_word (m := ⟨4, 3⟩) (meth := k4m3) (c := k4c3) (by decide +kernel) rfl rfl rfl (by decide +kernel)
set_option maxRecDepth 65536 in
theorem w_c10 : (Jvm.Cond.code ({ cls := "com/example/lyrebird/lyrebird/content/ContentBytesPinLaw", name := "same", desc := "([BIBBB)Z" } : Jvm.MethodName) method_3_code (5 : Nat) (Option.some Jvm.ClassFile.FieldType.boolean)).before args0 about1 = true := code_word (m := ⟨1, 2⟩) (meth := k1m2) (c := k1c2) (by decide +kernel) rfl rfl rfl (by decide +kernel)
set_option maxRecDepth 65536 in
theorem w_c11 : (Jvm.Cond.code ({ cls := "java/lang/String", name := "valueOf", desc := "(C)Ljava/lang/String;" } : Jvm.MethodName) jdk_42_method_139_code (1 : Nat) (Option.some (Jvm.ClassFile.FieldType.object "java/lang/String"))).before args0 about1 = true := code_word (m := ⟨11, 1⟩) (meth := k11m1) (c := k11c1) (by decide +kernel) rfl rfl rfl (by decide +kernel)
set_option maxRecDepth 65536 in
theorem w_c12 : (Jvm.Cond.code ({ cls := "java/lang/StringLatin1", name := "canEncode", desc := "(C)Z" } : Jvm.MethodName) jdk_43_method_3_code (1 : Nat) (Option.some Jvm.ClassFile.FieldType.boolean)).before args0 about1 = true := code_word (m := ⟨12, 1⟩) (meth := k12m1) (c := k12c1) (by decide +kernel) rfl rfl rfl (by decide +kernel)
set_option maxRecDepth 65536 in
theorem w_c13 : (Jvm.Cond.code ({ cls := "java/lang/StringLatin1", name := "toBytes", desc := "(C)[B" } : Jvm.MethodName) jdk_43_method_46_code (1 : Nat) (Option.some (Jvm.ClassFile.FieldType.array Jvm.ClassFile.FieldType.byte))).before args0 about1 = true := code_word (m := ⟨12, 2⟩) (meth := k12m2) (c := k12c2) (by decide +kernel) rfl rfl rfl (by decide +kernel)
set_option maxRecDepth 65536 in
theorem w_c14 : (Jvm.Cond.code ({ cls := "java/lang/String", name := "<init>", desc := "([BB)V" } : Jvm.MethodName) jdk_42_method_151_code (3 : Nat) (Option.none : Option Jvm.ClassFile.FieldType)).before args0 about1 = true := code_word (m := ⟨11, 2⟩) (meth := k11m2) (c := k11c2) (by decide +kernel) rfl rfl rfl (by decide +kernel)
set_option maxRecDepth 65536 in
theorem w_c15 : (Jvm.Cond.code ({ cls := "com/example/lyrebird/lyrebird/content/Content", name := "<init>", desc := "(Ljava/lang/String;J[B)V" } : Jvm.MethodName) prog_2_method_1_code (5 : Nat) (Option.none : Option Jvm.ClassFile.FieldType)).before args0 about1 = true := code_word (m := ⟨2, 0⟩) (meth := k2m0) (c := k2c0) (by decide +kernel) rfl rfl rfl (by decide +kernel)
set_option maxRecDepth 65536 in
theorem w_c16 : (Jvm.Cond.code ({ cls := "java/util/Objects", name := "requireNonNull", desc := "(Ljava/lang/Object;Ljava/lang/String;)Ljava/lang/Object;" } : Jvm.MethodName) jdk_31_method_11_code (2 : Nat) (Option.some (Jvm.ClassFile.FieldType.object "java/lang/Object"))).before args0 about1 = true := code_word (m := ⟨5, 2⟩) (meth := k5m2) (c := k5c2) (by decide +kernel) rfl rfl rfl (by decide +kernel)
set_option maxRecDepth 65536 in
theorem w_c17 : (Jvm.Cond.code ({ cls := "java/util/Optional", name := "empty", desc := "()Ljava/util/Optional;" } : Jvm.MethodName) jdk_32_method_1_code (1 : Nat) (Option.some (Jvm.ClassFile.FieldType.object "java/util/Optional"))).before args0 about1 = true := code_word (m := ⟨4, 0⟩) (meth := k4m0) (c := k4c0) (by decide +kernel) rfl rfl rfl (by decide +kernel)
def codes1 : List Jvm.Cond := [Jvm.Cond.code x code maxLocals ret, Jvm.Cond.code ({ cls := "com/example/lyrebird/lyrebird/content/Content", name := "inline", desc := "([B[B)Lcom/example/lyrebird/lyrebird/content/Content;" } : Jvm.MethodName) prog_2_method_3_code (2 : Nat) (Option.some (Jvm.ClassFile.FieldType.object "com/example/lyrebird/lyrebird/content/Content")), Jvm.Cond.code ({ cls := "com/example/lyrebird/lyrebird/content/Content", name := "<init>", desc := "(Ljava/lang/String;[BJ[B)V" } : Jvm.MethodName) prog_2_method_2_code (6 : Nat) (Option.none : Option Jvm.ClassFile.FieldType), Jvm.Cond.code ({ cls := "java/lang/Object", name := "<init>", desc := "()V" } : Jvm.MethodName) object_method_1_code (1 : Nat) (Option.none : Option Jvm.ClassFile.FieldType), Jvm.Cond.code ({ cls := "com/example/lyrebird/lyrebird/content/Content", name := "bytes", desc := "()Ljava/util/Optional;" } : Jvm.MethodName) prog_2_method_5_code (1 : Nat) (Option.some (Jvm.ClassFile.FieldType.object "java/util/Optional")), Jvm.Cond.code ({ cls := "java/util/Optional", name := "of", desc := "(Ljava/lang/Object;)Ljava/util/Optional;" } : Jvm.MethodName) jdk_32_method_3_code (1 : Nat) (Option.some (Jvm.ClassFile.FieldType.object "java/util/Optional")), Jvm.Cond.code ({ cls := "java/util/Objects", name := "requireNonNull", desc := "(Ljava/lang/Object;)Ljava/lang/Object;" } : Jvm.MethodName) jdk_31_method_10_code (1 : Nat) (Option.some (Jvm.ClassFile.FieldType.object "java/lang/Object")), Jvm.Cond.code ({ cls := "java/util/Optional", name := "<init>", desc := "(Ljava/lang/Object;)V" } : Jvm.MethodName) jdk_32_method_2_code (2 : Nat) (Option.none : Option Jvm.ClassFile.FieldType), Jvm.Cond.code ({ cls := "java/util/Optional", name := "isPresent", desc := "()Z" } : Jvm.MethodName) jdk_32_method_6_code (1 : Nat) (Option.some Jvm.ClassFile.FieldType.boolean), Jvm.Cond.code ({ cls := "java/util/Optional", name := "get", desc := "()Ljava/lang/Object;" } : Jvm.MethodName) jdk_32_method_5_code (1 : Nat) (Option.some (Jvm.ClassFile.FieldType.object "java/lang/Object")), Jvm.Cond.code ({ cls := "com/example/lyrebird/lyrebird/content/ContentBytesPinLaw", name := "same", desc := "([BIBBB)Z" } : Jvm.MethodName) method_3_code (5 : Nat) (Option.some Jvm.ClassFile.FieldType.boolean), Jvm.Cond.code ({ cls := "java/lang/String", name := "valueOf", desc := "(C)Ljava/lang/String;" } : Jvm.MethodName) jdk_42_method_139_code (1 : Nat) (Option.some (Jvm.ClassFile.FieldType.object "java/lang/String")), Jvm.Cond.code ({ cls := "java/lang/StringLatin1", name := "canEncode", desc := "(C)Z" } : Jvm.MethodName) jdk_43_method_3_code (1 : Nat) (Option.some Jvm.ClassFile.FieldType.boolean), Jvm.Cond.code ({ cls := "java/lang/StringLatin1", name := "toBytes", desc := "(C)[B" } : Jvm.MethodName) jdk_43_method_46_code (1 : Nat) (Option.some (Jvm.ClassFile.FieldType.array Jvm.ClassFile.FieldType.byte)), Jvm.Cond.code ({ cls := "java/lang/String", name := "<init>", desc := "([BB)V" } : Jvm.MethodName) jdk_42_method_151_code (3 : Nat) (Option.none : Option Jvm.ClassFile.FieldType), Jvm.Cond.code ({ cls := "com/example/lyrebird/lyrebird/content/Content", name := "<init>", desc := "(Ljava/lang/String;J[B)V" } : Jvm.MethodName) prog_2_method_1_code (5 : Nat) (Option.none : Option Jvm.ClassFile.FieldType), Jvm.Cond.code ({ cls := "java/util/Objects", name := "requireNonNull", desc := "(Ljava/lang/Object;Ljava/lang/String;)Ljava/lang/Object;" } : Jvm.MethodName) jdk_31_method_11_code (2 : Nat) (Option.some (Jvm.ClassFile.FieldType.object "java/lang/Object")), Jvm.Cond.code ({ cls := "java/util/Optional", name := "empty", desc := "()Ljava/util/Optional;" } : Jvm.MethodName) jdk_32_method_1_code (1 : Nat) (Option.some (Jvm.ClassFile.FieldType.object "java/util/Optional"))]
set_option maxRecDepth 65536 in
theorem codes_eq : words1.filter isCode = codes1 := rfl
theorem w_codes : ∀ c ∈ words1.filter isCode, c.before args0 about1 = true := by
  rw [codes_eq]
  intro c hc
  simp only [codes1, List.mem_cons, List.not_mem_nil, or_false] at hc
  rcases hc with rfl | rfl | rfl | rfl | rfl | rfl | rfl | rfl | rfl | rfl | rfl | rfl | rfl | rfl | rfl | rfl | rfl | rfl
  · exact w_c0
  · exact w_c1
  · exact w_c2
  · exact w_c3
  · exact w_c4
  · exact w_c5
  · exact w_c6
  · exact w_c7
  · exact w_c8
  · exact w_c9
  · exact w_c10
  · exact w_c11
  · exact w_c12
  · exact w_c13
  · exact w_c14
  · exact w_c15
  · exact w_c16
  · exact w_c17
set_option maxRecDepth 65536 in
theorem w_t1 : (words1.take 24).all (fun c => isCode c || c.before args0 about1) = true := by decide +kernel
set_option maxRecDepth 65536 in
theorem w_t2 : ((words1.drop 24).take 24).all (fun c => isCode c || c.before args0 about1) = true := by decide +kernel
set_option maxRecDepth 65536 in
theorem w_t3 : (((words1.drop 24).drop 24).take 24).all (fun c => isCode c || c.before args0 about1) = true := by decide +kernel
set_option maxRecDepth 65536 in
theorem w_t4 : ((((words1.drop 24).drop 24).drop 24).take 24).all (fun c => isCode c || c.before args0 about1) = true := by decide +kernel
set_option maxRecDepth 65536 in
theorem w_t5 : ((((words1.drop 24).drop 24).drop 24).drop 24).all (fun c => isCode c || c.before args0 about1) = true := by decide +kernel
theorem w_tables : (allAtoms (Jvm.Cond.code x code maxLocals ret :: tables_1)).before args0 about1 = true := by
  rw [allAtoms_all]
  show words1.all (fun c => c.before args0 about1) = true
  refine all_split ?_ w_codes
  rw [← List.take_append_drop 24 words1, List.all_append, w_t1, ← List.take_append_drop 24 (words1.drop 24), List.all_append, w_t2, ← List.take_append_drop 24 ((words1.drop 24).drop 24), List.all_append, w_t3, ← List.take_append_drop 24 (((words1.drop 24).drop 24).drop 24), List.all_append, w_t4, w_t5]
  rfl
set_option maxRecDepth 65536 in
theorem w_rest : rest_1_c.before args0 about1 = true := by decide +kernel
set_option maxRecDepth 65536 in
theorem w_case : (Jvm.Cond.and given_1 narrow_1).before args0 about1 = true := by decide +kernel
theorem w_applies : (headSpec (Jvm.Cond.code x code maxLocals ret :: tables_1) room_1).applies x e0.platform about1 = true :=
  (Spec.applies_iff w_frames).mpr ⟨w_running, w_runnable, w_alone, w_named, w_hears, w_ripe, w_room, w_tables⟩
theorem atStart : AtStart classFile x code maxLocals ret World_1 tables_1 room_1 Calls_1 rest_1 Pre_1 launch0 p0 e0 about1 theMethod args0 below0 :=
  ⟨lists_1, trivial, launch0.admits_env _ _ _, launch0.least_env, fairChoices_fair.cas, fairChoices_fair.clock, w_frames, w_args, w_heap, w_applies, trivial, w_rest, w_case⟩
end start1
theorem witness_1 : WitnessClaimed_1 := ⟨start1.p0, start1.e0, start1.about1, start1.theMethod, start1.args0, start1.below0, start1.atStart⟩
end Jvm.Pilot.@@N@@

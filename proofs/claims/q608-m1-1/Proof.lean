import JvmDerived
import JvmDerived.Pilot.@@N@@Statement
import JvmDerived.Pilot.@@N@@Code
set_option linter.unusedVariables false
set_option linter.unusedSimpArgs false
namespace Jvm.Pilot.@@N@@
open Jvm Jvm.ClassFile Sem Op Lib Jvm.Free Jvm.Stand Jvm.LawKit Jvm.RoadKit Bundle Jvm.Pilot.@@N@@.Jvm.D
/-! THE LAYER own_: 'Ends': from this state the body ends as Q says; one lemma an instruction, over frames in the form mkF -/
section Own
variable {p : Program} {l : Launch} {e : Env} {R : Room} {s : State} {m : MethodId} {args : Array Value} {below : List Frame} {meth : Method} {c : Code} {T : State} {locs : List Loc} {cells slots : Nat}
variable {Q : Option Value → Heap → List Loc → Prop} {C S : Nat} {bc : ByteArray} {pc pc' : Nat} {Ls Ls' : Array Slot} {st : List Value} {Fz : Outcome → State → Prop}
def Ends (tb : Tables) (e : Env) (below : List Frame) (Fz : Outcome → State → Prop) (t : State) : Prop :=
  ∃ s₂ o, Steps tb e below t s₂ ∧ s₂.status = .running ∧ Ended s₂ below o ∧ Fz o s₂
def OwnFin (s : State) (Q : Option Value → Heap → List Loc → Prop) (C S : Nat) (o : Outcome) (s₂ : State) : Prop := ∃ v L, o = .returned v ∧ Q v s₂.heap L ∧ FrameEnd s o s₂ L C S
theorem Ends.of {tb : Tables} {t t' : State} (st : ∀ target, Steps tb e below t' target → Steps tb e below t target) (k : Ends tb e below Fz t') : Ends tb e below Fz t := by
  obtain ⟨s₂, o, h1, h2⟩ := k
  exact ⟨s₂, o, st _ h1, h2⟩
theorem Ends.tr {tb : Tables} {t t' : State} (st : Steps tb e below t t') (k : Ends tb e below Fz t') : Ends tb e below Fz t := Ends.of (fun _ q => st.trans q) k
theorem own_iloadN (X : Stand p l e R s m args below meth c T locs cells slots) (hx : p.tables.exec = Jvm.exec) (hby : c.code = bc) {k : Fin 4} {v : Int32} (hd : decode bc pc = .ok (.iload_n k, 1)) (hp : pc + 1 = pc') (hl : Ls[k.val]? = some (.val (.int v)))
    (kt : Ends p.tables e below Fz (T.setTop (mkF m pc' Ls (.int v :: st)))) : Ends p.tables e below Fz (T.setTop (mkF m pc Ls st)) := by
  subst hp; exact Ends.of (fun _ q => XS.iloadN X.here hx rfl (hb hby hd) hl q) kt
theorem own_iload (X : Stand p l e R s m args below meth c T locs cells slots) (hx : p.tables.exec = Jvm.exec) (hby : c.code = bc) {k : Nat} {v : Int32} (hd : decode bc pc = .ok (.iload k, 2)) (hp : pc + 2 = pc') (hl : Ls[k]? = some (.val (.int v)))
    (kt : Ends p.tables e below Fz (T.setTop (mkF m pc' Ls (.int v :: st)))) : Ends p.tables e below Fz (T.setTop (mkF m pc Ls st)) := by
  subst hp; exact Ends.of (fun _ q => XS.iload X.here hx rfl (hb hby hd) hl q) kt
theorem own_lloadN (X : Stand p l e R s m args below meth c T locs cells slots) (hx : p.tables.exec = Jvm.exec) (hby : c.code = bc) {k : Fin 4} {v : Int64} (hd : decode bc pc = .ok (.lload_n k, 1)) (hp : pc + 1 = pc') (hl : Ls[k.val]? = some (.val (.long v)))
    (kt : Ends p.tables e below Fz (T.setTop (mkF m pc' Ls (.long v :: st)))) : Ends p.tables e below Fz (T.setTop (mkF m pc Ls st)) := by
  subst hp; exact Ends.of (fun _ q => Jvm.Free.XT.lloadN X.here hx rfl (hb hby hd) hl q) kt
theorem own_lload (X : Stand p l e R s m args below meth c T locs cells slots) (hx : p.tables.exec = Jvm.exec) (hby : c.code = bc) {k : Nat} {v : Int64} (hd : decode bc pc = .ok (.lload k, 2)) (hp : pc + 2 = pc') (hl : Ls[k]? = some (.val (.long v)))
    (kt : Ends p.tables e below Fz (T.setTop (mkF m pc' Ls (.long v :: st)))) : Ends p.tables e below Fz (T.setTop (mkF m pc Ls st)) := by
  subst hp; exact Ends.of (fun _ q => Jvm.Free.XT.lload X.here hx rfl (hb hby hd) hl q) kt
theorem own_aloadN (X : Stand p l e R s m args below meth c T locs cells slots) (hx : p.tables.exec = Jvm.exec) (hby : c.code = bc) {k : Fin 4} {v : Value} (hd : decode bc pc = .ok (.aload_n k, 1)) (hp : pc + 1 = pc') (hl : Ls[k.val]? = some (.val v)) (hv : v.isRef = true)
    (kt : Ends p.tables e below Fz (T.setTop (mkF m pc' Ls (v :: st)))) : Ends p.tables e below Fz (T.setTop (mkF m pc Ls st)) := by
  subst hp; exact Ends.of (fun _ q => XS.aloadN X.here hx rfl (hb hby hd) hl hv q) kt
theorem own_aload (X : Stand p l e R s m args below meth c T locs cells slots) (hx : p.tables.exec = Jvm.exec) (hby : c.code = bc) {k : Nat} {v : Value} (hd : decode bc pc = .ok (.aload k, 2)) (hp : pc + 2 = pc') (hl : Ls[k]? = some (.val v)) (hv : v.isRef = true)
    (kt : Ends p.tables e below Fz (T.setTop (mkF m pc' Ls (v :: st)))) : Ends p.tables e below Fz (T.setTop (mkF m pc Ls st)) := by
  subst hp; exact Ends.of (fun _ q => XS.aload X.here hx rfl (hb hby hd) hl hv q) kt
theorem own_istoreN (X : Stand p l e R s m args below meth c T locs cells slots) (hx : p.tables.exec = Jvm.exec) (hby : c.code = bc) {k : Fin 4} {v : Int32} (hd : decode bc pc = .ok (.istore_n k, 1)) (hp : pc + 1 = pc') (Ls' : Array Slot) (hl : storeLocals Ls k.val (.int v) = some Ls')
    (kt : Ends p.tables e below Fz (T.setTop (mkF m pc' Ls' st))) : Ends p.tables e below Fz (T.setTop (mkF m pc Ls (.int v :: st))) := by
  subst hp; exact Ends.of (fun _ q => XS.istoreN X.here hx rfl (hb hby hd) rfl hl q) kt
theorem own_istore (X : Stand p l e R s m args below meth c T locs cells slots) (hx : p.tables.exec = Jvm.exec) (hby : c.code = bc) {k : Nat} {v : Int32} (hd : decode bc pc = .ok (.istore k, 2)) (hp : pc + 2 = pc') (Ls' : Array Slot) (hl : storeLocals Ls k (.int v) = some Ls')
    (kt : Ends p.tables e below Fz (T.setTop (mkF m pc' Ls' st))) : Ends p.tables e below Fz (T.setTop (mkF m pc Ls (.int v :: st))) := by
  subst hp; exact Ends.of (fun _ q => XS.istore X.here hx rfl (hb hby hd) rfl hl q) kt
theorem own_lstore (X : Stand p l e R s m args below meth c T locs cells slots) (hx : p.tables.exec = Jvm.exec) (hby : c.code = bc) {k : Nat} {v : Int64} (hd : decode bc pc = .ok (.lstore k, 2)) (hp : pc + 2 = pc') (Ls' : Array Slot) (hl : storeLocals Ls k (.long v) = some Ls')
    (kt : Ends p.tables e below Fz (T.setTop (mkF m pc' Ls' st))) : Ends p.tables e below Fz (T.setTop (mkF m pc Ls (.long v :: st))) := by
  subst hp; exact Ends.of (fun _ q => Jvm.Free.XT.lstore X.here hx rfl (hb hby hd) rfl hl q) kt
theorem own_astore (X : Stand p l e R s m args below meth c T locs cells slots) (hx : p.tables.exec = Jvm.exec) (hby : c.code = bc) {k : Nat} {v : Value} (hd : decode bc pc = .ok (.astore k, 2)) (hp : pc + 2 = pc') (Ls' : Array Slot) (hv : v.isRef = true) (hl : storeLocals Ls k v = some Ls')
    (kt : Ends p.tables e below Fz (T.setTop (mkF m pc' Ls' st))) : Ends p.tables e below Fz (T.setTop (mkF m pc Ls (v :: st))) := by
  subst hp; exact Ends.of (fun _ q => XS.astore X.here hx rfl (hb hby hd) rfl hv hl q) kt
theorem own_iconst (X : Stand p l e R s m args below meth c T locs cells slots) (hx : p.tables.exec = Jvm.exec) (hby : c.code = bc) {i : Int} (hd : decode bc pc = .ok (.iconst i, 1)) (hp : pc + 1 = pc') (v : Int32) (hv : Int32.ofInt i = v)
    (kt : Ends p.tables e below Fz (T.setTop (mkF m pc' Ls (.int v :: st)))) : Ends p.tables e below Fz (T.setTop (mkF m pc Ls st)) := by
  subst hp; exact Ends.of (fun _ q => by subst hv; exact XS.iconst X.here hx rfl (hb hby hd) q) kt
theorem own_lconst (X : Stand p l e R s m args below meth c T locs cells slots) (hx : p.tables.exec = Jvm.exec) (hby : c.code = bc) {i : Fin 2} (hd : decode bc pc = .ok (.lconst i, 1)) (hp : pc + 1 = pc') (v : Int64) (hv : Int64.ofNat i = v)
    (kt : Ends p.tables e below Fz (T.setTop (mkF m pc' Ls (.long v :: st)))) : Ends p.tables e below Fz (T.setTop (mkF m pc Ls st)) := by
  subst hp; exact Ends.of (fun _ q => by subst hv; exact Jvm.Free.XT.lconst X.here hx rfl (hb hby hd) q) kt
theorem own_iadd (X : Stand p l e R s m args below meth c T locs cells slots) (hx : p.tables.exec = Jvm.exec) (hby : c.code = bc) {x y : Int32} (hd : decode bc pc = .ok (.iadd, 1)) (hp : pc + 1 = pc')
    (kt : Ends p.tables e below Fz (T.setTop (mkF m pc' Ls (.int (x + y) :: st)))) : Ends p.tables e below Fz (T.setTop (mkF m pc Ls (.int y :: .int x :: st))) := by
  subst hp; exact Ends.of (fun _ q => XS.iadd X.here hx rfl (hb hby hd) rfl q) kt
theorem own_ladd (X : Stand p l e R s m args below meth c T locs cells slots) (hx : p.tables.exec = Jvm.exec) (hby : c.code = bc) {x y : Int64} (hd : decode bc pc = .ok (.ladd, 1)) (hp : pc + 1 = pc')
    (kt : Ends p.tables e below Fz (T.setTop (mkF m pc' Ls (.long (x + y) :: st)))) : Ends p.tables e below Fz (T.setTop (mkF m pc Ls (.long y :: .long x :: st))) := by
  subst hp; exact Ends.of (fun _ q => Jvm.Free.XT.ladd X.here hx rfl (hb hby hd) rfl q) kt
theorem own_isub (X : Stand p l e R s m args below meth c T locs cells slots) (hx : p.tables.exec = Jvm.exec) (hby : c.code = bc) {x y : Int32} (hd : decode bc pc = .ok (.isub, 1)) (hp : pc + 1 = pc')
    (kt : Ends p.tables e below Fz (T.setTop (mkF m pc' Ls (.int (x - y) :: st)))) : Ends p.tables e below Fz (T.setTop (mkF m pc Ls (.int y :: .int x :: st))) := by
  subst hp; exact Ends.of (fun _ q => XS.isub X.here hx rfl (hb hby hd) rfl q) kt
theorem own_lsub (X : Stand p l e R s m args below meth c T locs cells slots) (hx : p.tables.exec = Jvm.exec) (hby : c.code = bc) {x y : Int64} (hd : decode bc pc = .ok (.lsub, 1)) (hp : pc + 1 = pc')
    (kt : Ends p.tables e below Fz (T.setTop (mkF m pc' Ls (.long (x - y) :: st)))) : Ends p.tables e below Fz (T.setTop (mkF m pc Ls (.long y :: .long x :: st))) := by
  subst hp; exact Ends.of (fun _ q => Jvm.Free.XT.lsub X.here hx rfl (hb hby hd) rfl q) kt
theorem own_iand (X : Stand p l e R s m args below meth c T locs cells slots) (hx : p.tables.exec = Jvm.exec) (hby : c.code = bc) {x y : Int32} (hd : decode bc pc = .ok (.iand, 1)) (hp : pc + 1 = pc')
    (kt : Ends p.tables e below Fz (T.setTop (mkF m pc' Ls (.int (x &&& y) :: st)))) : Ends p.tables e below Fz (T.setTop (mkF m pc Ls (.int y :: .int x :: st))) := by
  subst hp; exact Ends.of (fun _ q => XS.iand X.here hx rfl (hb hby hd) rfl q) kt
theorem own_land (X : Stand p l e R s m args below meth c T locs cells slots) (hx : p.tables.exec = Jvm.exec) (hby : c.code = bc) {x y : Int64} (hd : decode bc pc = .ok (.land, 1)) (hp : pc + 1 = pc')
    (kt : Ends p.tables e below Fz (T.setTop (mkF m pc' Ls (.long (x &&& y) :: st)))) : Ends p.tables e below Fz (T.setTop (mkF m pc Ls (.long y :: .long x :: st))) := by
  subst hp; exact Ends.of (fun _ q => Jvm.Free.XT.land X.here hx rfl (hb hby hd) rfl q) kt
theorem own_ishr (X : Stand p l e R s m args below meth c T locs cells slots) (hx : p.tables.exec = Jvm.exec) (hby : c.code = bc) {x : Int32} {y : Int32} (hd : decode bc pc = .ok (.ishr, 1)) (hp : pc + 1 = pc')
    (kt : Ends p.tables e below Fz (T.setTop (mkF m pc' Ls (.int (x >>> (y &&& 31)) :: st)))) : Ends p.tables e below Fz (T.setTop (mkF m pc Ls (.int y :: .int x :: st))) := by
  subst hp; exact Ends.of (fun _ q => Jvm.Free.XT.ishr X.here hx rfl (hb hby hd) rfl q) kt
theorem own_lneg (X : Stand p l e R s m args below meth c T locs cells slots) (hx : p.tables.exec = Jvm.exec) (hby : c.code = bc) {x : Int64} (hd : decode bc pc = .ok (.lneg, 1)) (hp : pc + 1 = pc')
    (kt : Ends p.tables e below Fz (T.setTop (mkF m pc' Ls (.long (-x) :: st)))) : Ends p.tables e below Fz (T.setTop (mkF m pc Ls (.long x :: st))) := by
  subst hp; exact Ends.of (fun _ q => Jvm.Free.XT.lneg X.here hx rfl (hb hby hd) rfl q) kt
theorem own_dup (X : Stand p l e R s m args below meth c T locs cells slots) (hx : p.tables.exec = Jvm.exec) (hby : c.code = bc) {v : Value} (hd : decode bc pc = .ok (.dup, 1)) (hp : pc + 1 = pc') (hc : v.category = 1)
    (kt : Ends p.tables e below Fz (T.setTop (mkF m pc' Ls (v :: v :: st)))) : Ends p.tables e below Fz (T.setTop (mkF m pc Ls (v :: st))) := by
  subst hp; exact Ends.of (fun _ q => XS.dup X.here hx rfl (hb hby hd) rfl hc q) kt
theorem own_dup2 (X : Stand p l e R s m args below meth c T locs cells slots) (hx : p.tables.exec = Jvm.exec) (hby : c.code = bc) {u v : Value} (hd : decode bc pc = .ok (.dup2, 1)) (hp : pc + 1 = pc') (hc : u.category = 1) (hc' : v.category = 1)
    (kt : Ends p.tables e below Fz (T.setTop (mkF m pc' Ls (u :: v :: u :: v :: st)))) : Ends p.tables e below Fz (T.setTop (mkF m pc Ls (u :: v :: st))) := by
  subst hp; exact Ends.of (fun _ q => Jvm.Free.XT.dup2 X.here hx rfl (hb hby hd) rfl hc hc' q) kt
theorem own_iinc (X : Stand p l e R s m args below meth c T locs cells slots) (hx : p.tables.exec = Jvm.exec) (hby : c.code = bc) {k : Nat} {i : Int} {x : Int32} (hd : decode bc pc = .ok (.iinc k i, 3)) (hp : pc + 3 = pc') (v : Int32) (hv : Int32.ofInt i = v) (Ls' : Array Slot) (hl : Ls[k]? = some (.val (.int x))) (hl' : storeLocals Ls k (.int (x + v)) = some Ls')
    (kt : Ends p.tables e below Fz (T.setTop (mkF m pc' Ls' st))) : Ends p.tables e below Fz (T.setTop (mkF m pc Ls st)) := by
  subst hp; exact Ends.of (fun _ q => by subst hv; exact XS.iinc X.here hx rfl (hb hby hd) hl hl' q) kt
theorem own_goto (X : Stand p l e R s m args below meth c T locs cells slots) (hx : p.tables.exec = Jvm.exec) (hby : c.code = bc) {o : Int} (hd : decode bc pc = .ok (.goto o, 3)) (hp : (pc : Int) + o = (pc' : Int)) (kt : Ends p.tables e below Fz (T.setTop (mkF m pc' Ls st))) : Ends p.tables e below Fz (T.setTop (mkF m pc Ls st)) :=
  Ends.of (fun _ q => XS.goto X.here hx rfl (pc0 := pc) (pc' := pc') rfl (hb hby hd) (by rw [hp]; exact Int.natCast_nonneg _) (by rw [hp]; rfl) q) kt
theorem own_icmp_eq (X : Stand p l e R s m args below meth c T locs cells slots) (hx : p.tables.exec = Jvm.exec) (hby : c.code = bc) {x y : Int32} {o : Int} {pcY pcN : Nat} (hd : decode bc pc = .ok (.if_icmp .eq o, 3)) (hpY : (pc : Int) + o = (pcY : Int)) (hpN : pc + 3 = pcN) (kY : x = y → Ends p.tables e below Fz (T.setTop (mkF m pcY Ls st))) (kN : ¬ x = y → Ends p.tables e below Fz (T.setTop (mkF m pcN Ls st))) : Ends p.tables e below Fz (T.setTop (mkF m pc Ls (.int y :: .int x :: st))) := by
  subst hpN; by_cases h : x = y
  · exact Ends.of (fun _ q => XS.icmpYes X.here hx rfl (pc0 := pc) (pc' := pcY) rfl (hb hby hd) rfl (Jvm.Free.XT.ii_eq_t h) (by rw [hpY]; exact Int.natCast_nonneg _) (by rw [hpY]; rfl) q) (kY h)
  · exact Ends.of (fun _ q => XS.icmpNo X.here hx rfl (hb hby hd) rfl (Jvm.Free.XT.ii_eq_f h) q) (kN h)
theorem own_icmp_ge (X : Stand p l e R s m args below meth c T locs cells slots) (hx : p.tables.exec = Jvm.exec) (hby : c.code = bc) {x y : Int32} {o : Int} {pcY pcN : Nat} (hd : decode bc pc = .ok (.if_icmp .ge o, 3)) (hpY : (pc : Int) + o = (pcY : Int)) (hpN : pc + 3 = pcN) (kY : y.toInt ≤ x.toInt → Ends p.tables e below Fz (T.setTop (mkF m pcY Ls st))) (kN : x.toInt < y.toInt → Ends p.tables e below Fz (T.setTop (mkF m pcN Ls st))) : Ends p.tables e below Fz (T.setTop (mkF m pc Ls (.int y :: .int x :: st))) := by
  subst hpN; by_cases h : x < y
  · exact Ends.of (fun _ q => XS.icmpNo X.here hx rfl (hb hby hd) rfl (Jvm.Free.XT.ii_ge_f h) q) (kN (Int32.lt_iff_toInt_lt.mp h))
  · exact Ends.of (fun _ q => XS.icmpYes X.here hx rfl (pc0 := pc) (pc' := pcY) rfl (hb hby hd) rfl (Jvm.Free.XT.ii_ge_t h) (by rw [hpY]; exact Int.natCast_nonneg _) (by rw [hpY]; rfl) q) (kY (Int.not_lt.mp fun q => h (Int32.lt_iff_toInt_lt.mpr q)))
theorem own_icmp_gt (X : Stand p l e R s m args below meth c T locs cells slots) (hx : p.tables.exec = Jvm.exec) (hby : c.code = bc) {x y : Int32} {o : Int} {pcY pcN : Nat} (hd : decode bc pc = .ok (.if_icmp .gt o, 3)) (hpY : (pc : Int) + o = (pcY : Int)) (hpN : pc + 3 = pcN) (kY : y.toInt < x.toInt → Ends p.tables e below Fz (T.setTop (mkF m pcY Ls st))) (kN : x.toInt ≤ y.toInt → Ends p.tables e below Fz (T.setTop (mkF m pcN Ls st))) : Ends p.tables e below Fz (T.setTop (mkF m pc Ls (.int y :: .int x :: st))) := by
  subst hpN; by_cases h : y < x
  · exact Ends.of (fun _ q => XS.icmpYes X.here hx rfl (pc0 := pc) (pc' := pcY) rfl (hb hby hd) rfl (Jvm.Free.XT.ii_gt_t h) (by rw [hpY]; exact Int.natCast_nonneg _) (by rw [hpY]; rfl) q) (kY (Int32.lt_iff_toInt_lt.mp h))
  · exact Ends.of (fun _ q => XS.icmpNo X.here hx rfl (hb hby hd) rfl (Jvm.Free.XT.ii_gt_f h) q) (kN (Int.not_lt.mp fun q => h (Int32.lt_iff_toInt_lt.mpr q)))
theorem own_icmp_le (X : Stand p l e R s m args below meth c T locs cells slots) (hx : p.tables.exec = Jvm.exec) (hby : c.code = bc) {x y : Int32} {o : Int} {pcY pcN : Nat} (hd : decode bc pc = .ok (.if_icmp .le o, 3)) (hpY : (pc : Int) + o = (pcY : Int)) (hpN : pc + 3 = pcN) (kY : x.toInt ≤ y.toInt → Ends p.tables e below Fz (T.setTop (mkF m pcY Ls st))) (kN : y.toInt < x.toInt → Ends p.tables e below Fz (T.setTop (mkF m pcN Ls st))) : Ends p.tables e below Fz (T.setTop (mkF m pc Ls (.int y :: .int x :: st))) := by
  subst hpN; by_cases h : y < x
  · exact Ends.of (fun _ q => XS.icmpNo X.here hx rfl (hb hby hd) rfl (Jvm.Free.XT.ii_le_f h) q) (kN (Int32.lt_iff_toInt_lt.mp h))
  · exact Ends.of (fun _ q => XS.icmpYes X.here hx rfl (pc0 := pc) (pc' := pcY) rfl (hb hby hd) rfl (Jvm.Free.XT.ii_le_t h) (by rw [hpY]; exact Int.natCast_nonneg _) (by rw [hpY]; rfl) q) (kY (Int.not_lt.mp fun q => h (Int32.lt_iff_toInt_lt.mpr q)))
theorem own_if_eq (X : Stand p l e R s m args below meth c T locs cells slots) (hx : p.tables.exec = Jvm.exec) (hby : c.code = bc) {x : Int32} {o : Int} {pcY pcN : Nat} (hd : decode bc pc = .ok (.ifCond .eq o, 3)) (hpY : (pc : Int) + o = (pcY : Int)) (hpN : pc + 3 = pcN) (kY : x = 0 → Ends p.tables e below Fz (T.setTop (mkF m pcY Ls st))) (kN : ¬ x = 0 → Ends p.tables e below Fz (T.setTop (mkF m pcN Ls st))) : Ends p.tables e below Fz (T.setTop (mkF m pc Ls (.int x :: st))) := by
  subst hpN; by_cases h : x = (0 : Int32)
  · exact Ends.of (fun _ q => XS.ifYes X.here hx rfl (pc0 := pc) (pc' := pcY) rfl (hb hby hd) rfl (Jvm.Free.XT.i0_eq_t h) (by rw [hpY]; exact Int.natCast_nonneg _) (by rw [hpY]; rfl) q) (kY h)
  · exact Ends.of (fun _ q => XS.ifNo X.here hx rfl (hb hby hd) rfl (Jvm.Free.XT.i0_eq_f h) q) (kN h)
theorem own_if_ne (X : Stand p l e R s m args below meth c T locs cells slots) (hx : p.tables.exec = Jvm.exec) (hby : c.code = bc) {x : Int32} {o : Int} {pcY pcN : Nat} (hd : decode bc pc = .ok (.ifCond .ne o, 3)) (hpY : (pc : Int) + o = (pcY : Int)) (hpN : pc + 3 = pcN) (kY : ¬ x = 0 → Ends p.tables e below Fz (T.setTop (mkF m pcY Ls st))) (kN : x = 0 → Ends p.tables e below Fz (T.setTop (mkF m pcN Ls st))) : Ends p.tables e below Fz (T.setTop (mkF m pc Ls (.int x :: st))) := by
  subst hpN; by_cases h : x = (0 : Int32)
  · exact Ends.of (fun _ q => XS.ifNo X.here hx rfl (hb hby hd) rfl (Jvm.Free.XT.i0_ne_f h) q) (kN h)
  · exact Ends.of (fun _ q => XS.ifYes X.here hx rfl (pc0 := pc) (pc' := pcY) rfl (hb hby hd) rfl (Jvm.Free.XT.i0_ne_t h) (by rw [hpY]; exact Int.natCast_nonneg _) (by rw [hpY]; rfl) q) (kY h)
theorem own_if_ge (X : Stand p l e R s m args below meth c T locs cells slots) (hx : p.tables.exec = Jvm.exec) (hby : c.code = bc) {x : Int32} {o : Int} {pcY pcN : Nat} (hd : decode bc pc = .ok (.ifCond .ge o, 3)) (hpY : (pc : Int) + o = (pcY : Int)) (hpN : pc + 3 = pcN) (kY : (0 : Int) ≤ x.toInt → Ends p.tables e below Fz (T.setTop (mkF m pcY Ls st))) (kN : x.toInt < (0 : Int) → Ends p.tables e below Fz (T.setTop (mkF m pcN Ls st))) : Ends p.tables e below Fz (T.setTop (mkF m pc Ls (.int x :: st))) := by
  subst hpN; by_cases h : x < (0 : Int32)
  · exact Ends.of (fun _ q => XS.ifNo X.here hx rfl (hb hby hd) rfl (Jvm.Free.XT.i0_ge_f h) q) (kN (Int32.lt_iff_toInt_lt.mp h))
  · exact Ends.of (fun _ q => XS.ifYes X.here hx rfl (pc0 := pc) (pc' := pcY) rfl (hb hby hd) rfl (Jvm.Free.XT.i0_ge_t h) (by rw [hpY]; exact Int.natCast_nonneg _) (by rw [hpY]; rfl) q) (kY (Int.not_lt.mp fun q => h (Int32.lt_iff_toInt_lt.mpr q)))
theorem own_lcmp_eq (X : Stand p l e R s m args below meth c T locs cells slots) (hx : p.tables.exec = Jvm.exec) (hby : c.code = bc) {x y : Int64} {o : Int} {pcY pcN : Nat} (hc : decode bc pc = .ok (.lcmp, 1)) (hd : decode bc (pc + 1) = .ok (.ifCond .eq o, 3)) (hpY : ((pc + 1 : Nat) : Int) + o = (pcY : Int)) (hpN : pc + 1 + 3 = pcN) (kY : x = y → Ends p.tables e below Fz (T.setTop (mkF m pcY Ls st))) (kN : ¬ x = y → Ends p.tables e below Fz (T.setTop (mkF m pcN Ls st))) : Ends p.tables e below Fz (T.setTop (mkF m pc Ls (.long y :: .long x :: st))) := by
  subst hpN; by_cases h : x = y
  · exact Ends.of (fun _ q => Jvm.Free.XT.lcmp X.here hx rfl (hb hby hc) rfl (XS.ifYes X.here hx rfl (pc0 := pc + 1) (pc' := pcY) rfl (hb hby hd) rfl (Jvm.Free.XT.ll_eq_t h) (by rw [hpY]; exact Int.natCast_nonneg _) (by rw [hpY]; rfl) q)) (kY h)
  · exact Ends.of (fun _ q => Jvm.Free.XT.lcmp X.here hx rfl (hb hby hc) rfl (XS.ifNo X.here hx rfl (hb hby hd) rfl (Jvm.Free.XT.ll_eq_f h) q)) (kN h)
theorem own_lcmp_ne (X : Stand p l e R s m args below meth c T locs cells slots) (hx : p.tables.exec = Jvm.exec) (hby : c.code = bc) {x y : Int64} {o : Int} {pcY pcN : Nat} (hc : decode bc pc = .ok (.lcmp, 1)) (hd : decode bc (pc + 1) = .ok (.ifCond .ne o, 3)) (hpY : ((pc + 1 : Nat) : Int) + o = (pcY : Int)) (hpN : pc + 1 + 3 = pcN) (kY : ¬ x = y → Ends p.tables e below Fz (T.setTop (mkF m pcY Ls st))) (kN : x = y → Ends p.tables e below Fz (T.setTop (mkF m pcN Ls st))) : Ends p.tables e below Fz (T.setTop (mkF m pc Ls (.long y :: .long x :: st))) := by
  subst hpN; by_cases h : x = y
  · exact Ends.of (fun _ q => Jvm.Free.XT.lcmp X.here hx rfl (hb hby hc) rfl (XS.ifNo X.here hx rfl (hb hby hd) rfl (Jvm.Free.XT.ll_ne_f h) q)) (kN h)
  · exact Ends.of (fun _ q => Jvm.Free.XT.lcmp X.here hx rfl (hb hby hc) rfl (XS.ifYes X.here hx rfl (pc0 := pc + 1) (pc' := pcY) rfl (hb hby hd) rfl (Jvm.Free.XT.ll_ne_t h) (by rw [hpY]; exact Int.natCast_nonneg _) (by rw [hpY]; rfl) q)) (kY h)
theorem own_lcmp_lt (X : Stand p l e R s m args below meth c T locs cells slots) (hx : p.tables.exec = Jvm.exec) (hby : c.code = bc) {x y : Int64} {o : Int} {pcY pcN : Nat} (hc : decode bc pc = .ok (.lcmp, 1)) (hd : decode bc (pc + 1) = .ok (.ifCond .lt o, 3)) (hpY : ((pc + 1 : Nat) : Int) + o = (pcY : Int)) (hpN : pc + 1 + 3 = pcN) (kY : x.toInt < y.toInt → Ends p.tables e below Fz (T.setTop (mkF m pcY Ls st))) (kN : y.toInt ≤ x.toInt → Ends p.tables e below Fz (T.setTop (mkF m pcN Ls st))) : Ends p.tables e below Fz (T.setTop (mkF m pc Ls (.long y :: .long x :: st))) := by
  subst hpN; by_cases h : x < y
  · exact Ends.of (fun _ q => Jvm.Free.XT.lcmp X.here hx rfl (hb hby hc) rfl (XS.ifYes X.here hx rfl (pc0 := pc + 1) (pc' := pcY) rfl (hb hby hd) rfl (Jvm.Free.XT.ll_lt_t h) (by rw [hpY]; exact Int.natCast_nonneg _) (by rw [hpY]; rfl) q)) (kY (Int64.lt_iff_toInt_lt.mp h))
  · exact Ends.of (fun _ q => Jvm.Free.XT.lcmp X.here hx rfl (hb hby hc) rfl (XS.ifNo X.here hx rfl (hb hby hd) rfl (Jvm.Free.XT.ll_lt_f h) q)) (kN (Int.not_lt.mp fun q => h (Int64.lt_iff_toInt_lt.mpr q)))
theorem own_lcmp_ge (X : Stand p l e R s m args below meth c T locs cells slots) (hx : p.tables.exec = Jvm.exec) (hby : c.code = bc) {x y : Int64} {o : Int} {pcY pcN : Nat} (hc : decode bc pc = .ok (.lcmp, 1)) (hd : decode bc (pc + 1) = .ok (.ifCond .ge o, 3)) (hpY : ((pc + 1 : Nat) : Int) + o = (pcY : Int)) (hpN : pc + 1 + 3 = pcN) (kY : y.toInt ≤ x.toInt → Ends p.tables e below Fz (T.setTop (mkF m pcY Ls st))) (kN : x.toInt < y.toInt → Ends p.tables e below Fz (T.setTop (mkF m pcN Ls st))) : Ends p.tables e below Fz (T.setTop (mkF m pc Ls (.long y :: .long x :: st))) := by
  subst hpN; by_cases h : x < y
  · exact Ends.of (fun _ q => Jvm.Free.XT.lcmp X.here hx rfl (hb hby hc) rfl (XS.ifNo X.here hx rfl (hb hby hd) rfl (Jvm.Free.XT.ll_ge_f h) q)) (kN (Int64.lt_iff_toInt_lt.mp h))
  · exact Ends.of (fun _ q => Jvm.Free.XT.lcmp X.here hx rfl (hb hby hc) rfl (XS.ifYes X.here hx rfl (pc0 := pc + 1) (pc' := pcY) rfl (hb hby hd) rfl (Jvm.Free.XT.ll_ge_t h) (by rw [hpY]; exact Int.natCast_nonneg _) (by rw [hpY]; rfl) q)) (kY (Int.not_lt.mp fun q => h (Int64.lt_iff_toInt_lt.mpr q)))
theorem own_lcmp_gt (X : Stand p l e R s m args below meth c T locs cells slots) (hx : p.tables.exec = Jvm.exec) (hby : c.code = bc) {x y : Int64} {o : Int} {pcY pcN : Nat} (hc : decode bc pc = .ok (.lcmp, 1)) (hd : decode bc (pc + 1) = .ok (.ifCond .gt o, 3)) (hpY : ((pc + 1 : Nat) : Int) + o = (pcY : Int)) (hpN : pc + 1 + 3 = pcN) (kY : y.toInt < x.toInt → Ends p.tables e below Fz (T.setTop (mkF m pcY Ls st))) (kN : x.toInt ≤ y.toInt → Ends p.tables e below Fz (T.setTop (mkF m pcN Ls st))) : Ends p.tables e below Fz (T.setTop (mkF m pc Ls (.long y :: .long x :: st))) := by
  subst hpN; by_cases h : y < x
  · exact Ends.of (fun _ q => Jvm.Free.XT.lcmp X.here hx rfl (hb hby hc) rfl (XS.ifYes X.here hx rfl (pc0 := pc + 1) (pc' := pcY) rfl (hb hby hd) rfl (Jvm.Free.XT.ll_gt_t h) (by rw [hpY]; exact Int.natCast_nonneg _) (by rw [hpY]; rfl) q)) (kY (Int64.lt_iff_toInt_lt.mp h))
  · exact Ends.of (fun _ q => Jvm.Free.XT.lcmp X.here hx rfl (hb hby hc) rfl (XS.ifNo X.here hx rfl (hb hby hd) rfl (Jvm.Free.XT.ll_gt_f h) q)) (kN (Int.not_lt.mp fun q => h (Int64.lt_iff_toInt_lt.mpr q)))
theorem own_ret (X : Stand p l e R s m args below meth c T locs cells slots) (hx : p.tables.exec = Jvm.exec) (hby : c.code = bc) {v : Value} {t : FieldType} {i : Instr} (hret : meth.sig.returnType = some t) (hk : meth.locks = false) (hd : decode bc pc = .ok (i, 1)) (v' : Value) (hn : narrow t v = v')
    (hi : (i = .ireturn ∧ (t = .int ∨ t = .boolean ∨ t = .byte ∨ t = .char ∨ t = .short) ∧ ∃ z, v = .int z) ∨ (i = .lreturn ∧ t = .long ∧ ∃ z, v = .long z) ∨ (i = .areturn ∧ t.isReference = true ∧ v.isRef = true))
    (hC : cells ≤ C) (hS : slots ≤ S) (q : Q (some v') T.heap locs) : Ends p.tables e below (OwnFin s Q C S) (T.setTop (mkF m pc Ls (v :: st))) := by
  obtain ⟨fs, hr, hrun, hended, hW, hsame⟩ := X.leave (v := some v') (fun h => by rw [hret] at h; cases h) hk
  refine ⟨_, _, ?_, hrun, hended, _, _, rfl, q, ⟨_, rfl⟩, hW, hsame.mono hC hS⟩
  have hm' : T.vm.method? m = some meth := X.method'
  show Steps p.tables e below (T.setTop { method := m, pc := pc, locals := Ls, stack := v :: st, locked := none }) _
  have hd' := hb hby hd
  rcases hi with ⟨rfl, ht, z, rfl⟩ | ⟨rfl, rfl, z, rfl⟩ | ⟨rfl, ht, hv⟩
  · rcases ht with rfl | rfl | rfl | rfl | rfl <;> (jvm_step X.here [X.here.top, hx, hd', hm', hret, hn]; first | (intro acts; rw [hr _ acts rfl rfl rfl]) | rw [hr _ _ rfl rfl rfl]) <;> exact Steps.refl _
  · have hn2 : Value.long z = v' := hn
    subst hn2
    jvm_step X.here [X.here.top, hx, hd', hm', hret, hn]
    first | (intro acts; rw [hr _ acts rfl rfl rfl]) | rw [hr _ _ rfl rfl rfl]
    exact Steps.refl _
  · have hn2 : v = v' := by rw [← hn]; rcases ref_cases hv with rfl | ⟨z, rfl⟩ <;> cases t <;> rfl
    subst hn2
    jvm_step X.here [X.here.top, hx, hd', hm', hret, hn, ht, hv]
    first | (intro acts; rw [hr _ acts rfl rfl rfl]) | rw [hr _ _ rfl rfl rfl]
    exact Steps.refl _
theorem own_retV (X : Stand p l e R s m args below meth c T locs cells slots) (hx : p.tables.exec = Jvm.exec) (hby : c.code = bc) (hret : meth.sig.returnType = none) (hk : meth.locks = false) (hd : decode bc pc = .ok (.return_, 1)) (hC : cells ≤ C) (hS : slots ≤ S) (q : Q none T.heap locs) : Ends p.tables e below (OwnFin s Q C S) (T.setTop (mkF m pc Ls [])) := by
  obtain ⟨fs, hr, hrun, hended, hW, hsame⟩ := X.leave (v := none) (fun _ => rfl) hk
  exact ⟨_, _, X.returnOut hx hret (hb hby hd) hr, hrun, hended, _, _, rfl, q, ⟨_, rfl⟩, hW, hsame.mono hC hS⟩
end Own
section OwnH
variable {p : Program} {l : Launch} {e : Env} {R : Room} {s : State} {m : MethodId} {args : Array Value} {below : List Frame} {meth : Method} {c : Code} {T : State} {locs : List Loc} {cells slots : Nat}
variable {Fz : Outcome → State → Prop} {bc : ByteArray} {pc pc' : Nat} {Ls Ls' : Array Slot} {st : List Value}
variable {Z : State} {a0 : Array Value} {h h0 : Heap} {n0 : Nat}
abbrev OwnMet (l : Launch) (Z : State) (y : MethodName) (bytes : ByteArray) (maxL : Nat) (rt : Option FieldType) (ws : List Jvm.Cond) (rm : Room) (as' : Array Value) (h0 : Heap) (Qc : Option Value → Heap → List Loc → Prop) : Prop :=
  MetFree l y (head1 (Jvm.Cond.code y bytes maxL rt :: ws) rm) (fun a U => a = as' ∧ Z.Warmed39 U.vm ∧ U.heap = h0) (fun _ _ _ _ _ => True) (fun _ U o U' => ∃ v L, o = .returned v ∧ Qc v U'.heap L ∧ FrameEnd U o U' L rm.cells rm.slots)
theorem own_body {y : MethodName} {bytes : ByteArray} {maxL : Nat} {rt : Option FieldType} {ws : List Jvm.Cond} {rm : Room} {as' : Array Value} {Qc : Option Value → Heap → List Loc → Prop} {Ls0 : Array Slot} (hpl : plainFor y = true) (hef : ∀ m : MethodId, entryFrame m as' maxL = mkF m 0 Ls0 [])
    (body : ∀ (p : Program) (e : Env) (s : State) (m : MethodId) (below : List Frame) (meth : Method) (c : Code) (s₁ : State), Stand p l e rm s m as' below meth c s₁ [] 0 0 → p.tables.exec = Jvm.exec → c.code = bytes → c.maxLocals = maxL → s.vm.findClass y.cls = some m.cls → meth.name = y.name → meth.sig.returnType = rt → meth.locks = false → Z.Warmed39 s.vm → s₁.heap = h0 → Ends p.tables e below (OwnFin s Qc rm.cells rm.slots) (s₁.setTop (mkF m 0 Ls0 []))) :
    OwnMet l Z y bytes maxL rt ws rm as' h0 Qc := by
  refine MetFree.of_bodySF hpl hisR ?_
  intro p e s m args below meth c s₁ Bd hml0 hP hK
  obtain ⟨rfl, hZ, hh⟩ := hP
  have e0 : s₁.heap = h0 := by rw [← hh, Bd.state]; rfl
  rw [hef]
  exact body p e s m below meth c s₁ (Stand.of_body Bd) Bd.exec Bd.bytes hml0 (findClass_of_methodNamed Bd.named) (name_of_methodNamed Bd.named Bd.method).1 Bd.returns Bd.notSynchronized hZ e0
theorem own_static (X : Stand p l e R s m args below meth c T locs cells slots) (hx : p.tables.exec = Jvm.exec) (hby : c.code = bc) (hZ : Z.Warmed39 s.vm) {own : String} {index : Nat} {y : MethodName} {bytes : ByteArray} {maxL : Nat} {rt r : Option FieldType} {ps : List FieldType} {rm : Room} {argsL rest : List Value} {Qc : Option Value → Heap → List Loc → Prop} {W : Nat}
    (hown : s.vm.findClass own = some m.cls) (w1 : (Jvm.Cond.methodLink own index y).before a0 Z = true) (w2 : (Jvm.Cond.static y).before a0 Z = true) (w3 : (Jvm.Cond.initialized y.cls).before a0 Z = true) (w4 : (Jvm.Cond.code y bytes maxL rt).before a0 Z = true) (hy : y.cls ≠ "java/lang/invoke/MethodHandle" ∧ y.cls ≠ "java/lang/invoke/VarHandle")
    (hM : OwnMet l Z y bytes maxL rt [] rm argsL.toArray h Qc) (eT : T.heap = h) (hml : Ls.size = c.maxLocals) (hlen : parseMethodDescriptor y.desc = some ⟨ps, r⟩) (hl : argsL.length = ps.length) (hf : rm.frames + 1 ≤ R.frames) (hW : (rest.map fun v => v.category).sum ≤ W) (hlo : W + (maxL + 11) + rm.locals ≤ R.locals) (hc : cells + rm.cells ≤ R.cells) (hs : slots + rm.slots ≤ R.slots)
    (hd : decode bc pc = .ok (.invokestatic index, 3)) (hp : pc + 3 = pc') (hst : st = argsL.reverse ++ rest)
    (kt : ∀ v T' L, Stand p l e R s m args below meth c T' (locs ++ L) (cells + rm.cells) (slots + rm.slots) → Qc v T'.heap L → Ends p.tables e below Fz (T'.setTop (mkF m pc' Ls (v.toList ++ rest)))) : Ends p.tables e below Fz (T.setTop (mkF m pc Ls st)) := by
  subst hp hst
  obtain ⟨v, vm₁, ⟨T', L', k', n'⟩, -, X', ⟨Lc, hQ, l', y', z'⟩, st⟩ := Jvm.LawKit.callS X hx (y := y) hown (mvT hZ w1) (mvT hZ w2) (mvT hZ w3) (mvT hZ w4) hy (backOf (W := W) hM hZ w4 w3 hf hlo) (g := mkF m pc Ls (argsL.reverse ++ rest)) rfl hml (argsL := argsL) (rest := rest) (lenOf hlen hl) rfl (by show 2 * 0 + _ ≤ _; omega) (hb hby hd) (fun _ _ => ⟨rfl, eT, hc, hs⟩)
  dsimp only [Pt.U, Pt.locs, Pt.cells, Pt.slots] at X' l' y' z' st hQ
  subst l' y' z'
  exact Ends.of st (kt v T' Lc X' hQ)
theorem own_special (X : Stand p l e R s m args below meth c T locs cells slots) (hx : p.tables.exec = Jvm.exec) (hby : c.code = bc) (hZ : Z.Warmed39 s.vm) {own : String} {index : Nat} {y : MethodName} {bytes : ByteArray} {maxL : Nat} {r : Option FieldType} {ps : List FieldType} {rm : Room} {a : Addr} {argsL rest : List Value} {Qc : Option Value → Heap → List Loc → Prop} {W : Nat}
    (hown : s.vm.findClass own = some m.cls) (hn : y.name = "<init>") (w1 : (Jvm.Cond.methodLink own index y).before a0 Z = true) (w2 : (Jvm.Cond.instanceMethod y).before a0 Z = true) (w3 : (Jvm.Cond.initialized y.cls).before a0 Z = true) (w4 : (Jvm.Cond.code y bytes maxL none).before a0 Z = true) (hy : y.cls ≠ "java/lang/invoke/MethodHandle" ∧ y.cls ≠ "java/lang/invoke/VarHandle")
    (hM : OwnMet l Z y bytes maxL none [] rm (Value.ref a :: argsL).toArray h Qc) (eT : T.heap = h) (hml : Ls.size = c.maxLocals) (hlen : parseMethodDescriptor y.desc = some ⟨ps, r⟩) (hl : argsL.length = ps.length) (hf : rm.frames + 1 ≤ R.frames) (hW : (rest.map fun v => v.category).sum ≤ W) (hlo : W + (maxL + 11) + rm.locals ≤ R.locals) (hc : cells + rm.cells ≤ R.cells) (hs : slots + rm.slots ≤ R.slots)
    (hd : decode bc pc = .ok (.invokespecial index, 3)) (hp : pc + 3 = pc') (hst : st = argsL.reverse ++ Value.ref a :: rest)
    (kt : ∀ v T' L, Stand p l e R s m args below meth c T' (locs ++ L) (cells + rm.cells) (slots + rm.slots) → Qc v T'.heap L → Ends p.tables e below Fz (T'.setTop (mkF m pc' Ls (v.toList ++ rest)))) : Ends p.tables e below Fz (T.setTop (mkF m pc Ls st)) := by
  subst hp hst
  obtain ⟨v, vm₁, ⟨T', L', k', n'⟩, -, X', ⟨Lc, hQ, l', y', z'⟩, st⟩ := X.specialBack hx (y := y) hn hown (mvT hZ w1) (mvT hZ w2) (mvT hZ w4) hy (backOf (W := W) hM hZ w4 w3 hf hlo) (g := mkF m pc Ls (argsL.reverse ++ Value.ref a :: rest)) rfl hml (Steps.refl _) (a := a) (argsL := argsL) (rest := rest) (lenOf hlen hl) rfl (by show 2 * 0 + _ ≤ _; omega) (hb hby hd) (fun _ _ => ⟨rfl, eT, hc, hs⟩)
  dsimp only [Pt.U, Pt.locs, Pt.cells, Pt.slots] at X' l' y' z' st hQ
  subst l' y' z'
  exact Ends.tr st (kt v T' Lc X' hQ)
theorem own_virtual (X : Stand p l e R s m args below meth c T locs cells slots) (hx : p.tables.exec = Jvm.exec) (hby : c.code = bc) (hZ : Z.Warmed39 s.vm) {own Cn : String} {index : Nat} {y : MethodName} {bytes : ByteArray} {maxL : Nat} {rt r : Option FieldType} {ps : List FieldType} {rm : Room} {a : Addr} {argsL rest : List Value} {Qc : Option Value → Heap → List Loc → Prop} {W : Nat}
    (hown : s.vm.findClass own = some m.cls) (w1 : (Jvm.Cond.methodLink own index y).before a0 Z = true) (wd : (Jvm.Cond.declares y).before a0 Z = true) (ws : (Jvm.Cond.selects Cn y y).before a0 Z = true) (w2 : (Jvm.Cond.instanceMethod y).before a0 Z = true) (w3 : (Jvm.Cond.initialized y.cls).before a0 Z = true) (w4 : (Jvm.Cond.code y bytes maxL rt).before a0 Z = true) (hy : y.cls ≠ "java/lang/invoke/MethodHandle" ∧ y.cls ≠ "java/lang/invoke/VarHandle")
    (hM : OwnMet l Z y bytes maxL rt [] rm (Value.ref a :: argsL).toArray h Qc) (E : Exa Z h a Cn) (eT : T.heap = h) (hml : Ls.size = c.maxLocals) (hlen : parseMethodDescriptor y.desc = some ⟨ps, r⟩) (hl : argsL.length = ps.length) (hf : rm.frames + 1 ≤ R.frames) (hW : (rest.map fun v => v.category).sum ≤ W) (hlo : W + (maxL + 11) + rm.locals ≤ R.locals) (hc : cells + rm.cells ≤ R.cells) (hs : slots + rm.slots ≤ R.slots)
    (hd : decode bc pc = .ok (.invokevirtual index, 3)) (hp : pc + 3 = pc') (hst : st = argsL.reverse ++ Value.ref a :: rest)
    (kt : ∀ v T' L, Stand p l e R s m args below meth c T' (locs ++ L) (cells + rm.cells) (slots + rm.slots) → Qc v T'.heap L → Ends p.tables e below Fz (T'.setTop (mkF m pc' Ls (v.toList ++ rest)))) : Ends p.tables e below Fz (T.setTop (mkF m pc Ls st)) := by
  subst hp hst
  obtain ⟨cq, kq, qa, qb, qc⟩ := isOf hZ eT E
  obtain ⟨v, vm₁, ⟨T', L', k', n'⟩, -, X', ⟨Lc, hQ, l', y', z'⟩, st⟩ := X.virtualBack hx (y := y) (z := y) hown (mvT hZ w1) (mvT hZ wd) (notFace_of_selects (args := #[]) (mvT hZ ws)) (mvT hZ ws) (mvT hZ w2) hy (backOf (W := W) hM hZ w4 w3 hf hlo) qa qc (g := mkF m pc Ls (argsL.reverse ++ Value.ref a :: rest)) rfl hml (Steps.refl _) (argsL := argsL) (rest := rest) (lenOf hlen hl) rfl (by show 2 * 0 + _ ≤ _; omega) (hb hby hd) (fun _ _ => ⟨rfl, eT, hc, hs⟩)
  dsimp only [Pt.U, Pt.locs, Pt.cells, Pt.slots] at X' l' y' z' st hQ
  subst l' y' z'
  exact Ends.tr st (kt v T' Lc X' hQ)
theorem own_initO (X : Stand p l e R s m args below meth c T locs cells slots) (hx : p.tables.exec = Jvm.exec) (hby : c.code = bc) (hZ : Z.Warmed39 s.vm) {own : String} {index : Nat} {a : Addr}
    (hown : s.vm.findClass own = some m.cls) (w1 : (Jvm.Cond.methodLink own index Lib.objectInit).before a0 Z = true) (w2 : (Jvm.Cond.instanceMethod Lib.objectInit).before a0 Z = true) (w3 : (Jvm.Cond.code Lib.objectInit ⟨#[0xb1]⟩ 1 none).before a0 Z = true) (eT : T.heap = h) (hml : Ls.size = c.maxLocals) (hf : 1 ≤ R.frames) {W : Nat} (hW : (st.map fun v => v.category).sum ≤ W) (hlo : W + 12 ≤ R.locals)
    (hd : decode bc pc = .ok (.invokespecial index, 3)) (hp : pc + 3 = pc')
    (kt : ∀ T', Stand p l e R s m args below meth c T' locs cells slots → T'.heap = h → Ends p.tables e below Fz (T'.setTop (mkF m pc' Ls st))) : Ends p.tables e below Fz (T.setTop (mkF m pc Ls (.ref a :: st))) := by
  subst hp
  obtain ⟨T', X', e', st⟩ := initO X hx hZ hown w1 w2 w3 eT (g := mkF m pc Ls (.ref a :: st)) rfl hml rfl (hb hby hd) hf (W := W) (by show 2 * 0 + _ ≤ _; omega) hlo
  exact Ends.of st (kt T' X' e')
theorem own_getfield (X : Stand p l e R s m args below meth c T locs cells slots) (hx : p.tables.exec = Jvm.exec) (hby : c.code = bc) (hZ : Z.Warmed39 s.vm) {own R0 O n d host : String} {index : Nat} {a : Addr} {v : Value}
    (hown : s.vm.findClass own = some m.cls) (w : (Jvm.Cond.fieldLink own index R0 n d).before a0 Z = true ∨ (Jvm.Cond.fieldLinkNest own index R0 n d host).before a0 Z = true) (via : Via Z R0 O n d) (eT : T.heap = h) (F : Fld Z h a O n d v)
    (hd : decode bc pc = .ok (.getfield index, 3)) (hp : pc + 3 = pc')
    (kt : ∀ T', Stand p l e R s m args below meth c T' locs cells slots → T'.heap = h → Ends p.tables e below Fz (T'.setTop (mkF m pc' Ls (v :: st)))) : Ends p.tables e below Fz (T.setTop (mkF m pc Ls (.ref a :: st))) := by
  subst hp
  obtain ⟨T', X', e', st⟩ := getF X hx hZ hown w via eT F (g := mkF m pc Ls (.ref a :: st)) rfl rfl (hb hby hd)
  exact Ends.of st (kt T' X' e')
theorem own_putfield (X : Stand p l e R s m args below meth c T locs cells slots) (hx : p.tables.exec = Jvm.exec) (hby : c.code = bc) (hZ : Z.Warmed39 s.vm) {own R0 O n d host Cn : String} {index kk : Nat} {ty : FieldType} {a : Addr} {v old : Value}
    (hown : s.vm.findClass own = some m.cls) (w : (Jvm.Cond.fieldLink own index R0 n d).before a0 Z = true ∨ (Jvm.Cond.fieldLinkNest own index R0 n d host).before a0 Z = true) (via : Via Z R0 O n d) (eT : T.heap = h) (F : Fld Z h a O n d old) (E : Exa Z h a Cn)
    (L : (Jvm.Cond.lays Cn O n d).before a0 Z = true ∨ ((Jvm.Cond.laysFinal Cn O n d).before a0 Z = true ∧ own = O ∧ meth.name = "<init>")) (wi : (Jvm.Cond.instantiable Cn kk).before a0 Z = true) (hty : parseFieldDescriptor d = some ty) (hn : narrow ty v = v) (hf : fits ty v = true) (N : Fr n0 locs) (ga : n0 ≤ a)
    (hd : decode bc pc = .ok (.putfield index, 3)) (hp : pc + 3 = pc')
    (kt : ∀ T' h' L', Stand p l e R s m args below meth c T' L' cells slots → T'.heap = h' → Wr h h' a (Jvm.RoadKit.slotOf Z O n d) v → Fr n0 L' → Ends p.tables e below Fz (T'.setTop (mkF m pc' Ls st))) : Ends p.tables e below Fz (T.setTop (mkF m pc Ls (v :: .ref a :: st))) := by
  subst hp
  obtain ⟨T', h', X', e', W', st⟩ := putF X hx hZ hown w via eT F E L wi hty hn hf (g := mkF m pc Ls (v :: .ref a :: st)) rfl rfl (hb hby hd)
  exact Ends.of st (kt T' h' _ X' e' W' (Fr.snoc X' N ga))
theorem own_new (X : Stand p l e R s m args below meth c T locs cells slots) (hx : p.tables.exec = Jvm.exec) (hby : c.code = bc) (hZ : Z.Warmed39 s.vm) {own Cn : String} {index n : Nat}
    (hown : s.vm.findClass own = some m.cls) (w : (Jvm.Cond.classLink own index Cn).before a0 Z = true) (wi : (Jvm.Cond.instantiable Cn n).before a0 Z = true) (wz : (Jvm.Cond.initialized Cn).before a0 Z = true) (eT : T.heap = h) (hc : cells + 1 ≤ R.cells) (hl : slots + n ≤ R.slots)
    (hd : decode bc pc = .ok (.new index, 3)) (hp : pc + 3 = pc')
    (kt : ∀ T' h' b, Stand p l e R s m args below meth c T' locs (cells + 1) (slots + n) → T'.heap = h' → b = h.size → Ext h h' → Exa Z h' b Cn → (∀ {O nm d : String} {ty : FieldType}, Laid Z a0 Cn O nm d → parseFieldDescriptor d = some ty → Fld Z h' b O nm d (defaultValue ty)) → Ends p.tables e below Fz (T'.setTop (mkF m pc' Ls (.ref b :: st)))) : Ends p.tables e below Fz (T.setTop (mkF m pc Ls st)) := by
  subst hp
  obtain ⟨T', h', X', e', E', A', D', -, st⟩ := newO X hx hZ hown w wi wz eT (g := mkF m pc Ls st) rfl (hb hby hd) hc hl
  exact Ends.of st (kt T' h' _ X' e' rfl E' A' D')
theorem own_newarray (X : Stand p l e R s m args below meth c T locs cells slots) (hx : p.tables.exec = Jvm.exec) (hby : c.code = bc) (hZ : Z.Warmed39 s.vm) {aty : ArrayType} {n : Int32}
    (w : (Jvm.Cond.arrayClass (newarray.typeOf aty)).before a0 Z = true) (eT : T.heap = h) (hn : ¬ n < 0) (cap : Nat) (hcap : n.toNatClampNeg ≤ cap) (hb8 : cap * 8 ≤ 536870912) (hc : cells + 1 ≤ R.cells) (hl : slots + cap ≤ R.slots)
    (ty : FieldType) (hty : newarray.typeOf aty = ty) (vs : List Value) (hvs : List.replicate n.toNatClampNeg (defaultValue ty) = vs)
    (hd : decode bc pc = .ok (.newarray aty, 2)) (hp : pc + 2 = pc')
    (kt : ∀ T' h' b k, Stand p l e R s m args below meth c T' locs (cells + 1) (slots + cap) → T'.heap = h' → b = h.size → Ext h h' → Arv Z h' b k ty n vs (defaultValue ty) → Ends p.tables e below Fz (T'.setTop (mkF m pc' Ls (.ref b :: st)))) : Ends p.tables e below Fz (T.setTop (mkF m pc Ls (.int n :: st))) := by
  subst hp hty hvs
  obtain ⟨T', h', k', X', e', E', A', st⟩ := newP X hx hZ w eT (g := mkF m pc Ls (.int n :: st)) rfl (hb hby hd) rfl hn hcap hb8 hc hl
  exact Ends.of st (kt T' h' _ k' X' e' rfl E' ((Arv.new A' hn).pad (pad_rep [] _ _)))
theorem own_arraylength (X : Stand p l e R s m args below meth c T locs cells slots) (hx : p.tables.exec = Jvm.exec) (hby : c.code = bc) (hZ : Z.Warmed39 s.vm) {ty : FieldType} {a : Addr} {k : ClassId} {n : Int32} {vs : List Value} {dv : Value}
    (eT : T.heap = h) (V : Arv Z h a k ty n vs dv) (hd : decode bc pc = .ok (.arraylength, 1)) (hp : pc + 1 = pc')
    (kt : Ends p.tables e below Fz (T.setTop (mkF m pc' Ls (.int n :: st)))) : Ends p.tables e below Fz (T.setTop (mkF m pc Ls (.ref a :: st))) := by
  subst hp
  obtain ⟨cl, A, -, Sz, Nn, -, -⟩ := V
  exact Ends.of (fun _ q => X.arraylength hx (by rw [eT]; exact A.1) (State.isArrayOf_alike hZ.alike A.2.1) (g := mkF m pc Ls (.ref a :: st)) rfl rfl (hb hby hd) _ (by rw [len_of Sz Nn]; exact q)) kt
theorem own_iaload (X : Stand p l e R s m args below meth c T locs cells slots) (hx : p.tables.exec = Jvm.exec) (hby : c.code = bc) (hZ : Z.Warmed39 s.vm) {a : Addr} {k : ClassId} {n j : Int32} {vs : List Value} {dv : Value} (v : Int32)
    (eT : T.heap = h) (V : Arv Z h a k .int n vs dv) (hj : ¬ j < 0 ∧ j < n) (hv : vs.getD j.toNatClampNeg dv = .int v) (hd : decode bc pc = .ok (.iaload, 1)) (hp : pc + 1 = pc')
    (kt : Ends p.tables e below Fz (T.setTop (mkF m pc' Ls (.int v :: st)))) : Ends p.tables e below Fz (T.setTop (mkF m pc Ls (.int j :: .ref a :: st))) := by
  subst hp
  obtain ⟨cl, A, -, Sz, Nn, H, -⟩ := V
  exact Ends.of (fun _ q => X.iaload hx (j := j) (v := .int v) (by rw [eT]; exact A.1) (State.isArrayOf_alike hZ.alike A.2.1) A.2.2 (inb_of Sz hj) (H.at (inb_of Sz hj) hv) (g := mkF m pc Ls (.int j :: .ref a :: st)) rfl rfl (hb hby hd) _ q) kt
theorem own_laload (X : Stand p l e R s m args below meth c T locs cells slots) (hx : p.tables.exec = Jvm.exec) (hby : c.code = bc) (hZ : Z.Warmed39 s.vm) {a : Addr} {k : ClassId} {n j : Int32} {vs : List Value} {dv : Value} (v : Int64)
    (eT : T.heap = h) (V : Arv Z h a k .long n vs dv) (hj : ¬ j < 0 ∧ j < n) (hv : vs.getD j.toNatClampNeg dv = .long v) (hd : decode bc pc = .ok (.laload, 1)) (hp : pc + 1 = pc')
    (kt : Ends p.tables e below Fz (T.setTop (mkF m pc' Ls (.long v :: st)))) : Ends p.tables e below Fz (T.setTop (mkF m pc Ls (.int j :: .ref a :: st))) := by
  subst hp
  obtain ⟨cl, A, -, Sz, Nn, H, -⟩ := V
  exact Ends.of (fun _ q => X.laload hx (j := j) (v := .long v) (by rw [eT]; exact A.1) (State.isArrayOf_alike hZ.alike A.2.1) A.2.2 (inb_of Sz hj) (H.at (inb_of Sz hj) hv) (g := mkF m pc Ls (.int j :: .ref a :: st)) rfl rfl (hb hby hd) _ q) kt
theorem own_zaload (X : Stand p l e R s m args below meth c T locs cells slots) (hx : p.tables.exec = Jvm.exec) (hby : c.code = bc) (hZ : Z.Warmed39 s.vm) {a : Addr} {k : ClassId} {n j : Int32} {vs : List Value} {dv : Value} (v : Int32)
    (eT : T.heap = h) (V : Arv Z h a k .boolean n vs dv) (hj : ¬ j < 0 ∧ j < n) (hv : vs.getD j.toNatClampNeg dv = .int v) (hd : decode bc pc = .ok (.baload, 1)) (hp : pc + 1 = pc')
    (kt : Ends p.tables e below Fz (T.setTop (mkF m pc' Ls (.int v :: st)))) : Ends p.tables e below Fz (T.setTop (mkF m pc Ls (.int j :: .ref a :: st))) := by
  subst hp
  obtain ⟨cl, A, -, Sz, Nn, H, -⟩ := V
  exact Ends.of (fun _ q => X.baloadBooleans hx (j := j) (v := .int v) (by rw [eT]; exact A.1) (State.isArrayOf_alike hZ.alike A.2.1) A.2.2 (inb_of Sz hj) (H.at (inb_of Sz hj) hv) (g := mkF m pc Ls (.int j :: .ref a :: st)) rfl rfl (hb hby hd) _ q) kt
theorem own_aaload (X : Stand p l e R s m args below meth c T locs cells slots) (hx : p.tables.exec = Jvm.exec) (hby : c.code = bc) (hZ : Z.Warmed39 s.vm) {ty : FieldType} {a : Addr} {k : ClassId} {n j : Int32} {vs : List Value} {dv : Value} (v : Value)
    (hr : ty.isReference = true) (eT : T.heap = h) (V : Arv Z h a k ty n vs dv) (hj : ¬ j < 0 ∧ j < n) (hv : vs.getD j.toNatClampNeg dv = v) (hd : decode bc pc = .ok (.aaload, 1)) (hp : pc + 1 = pc')
    (kt : Ends p.tables e below Fz (T.setTop (mkF m pc' Ls (v :: st)))) : Ends p.tables e below Fz (T.setTop (mkF m pc Ls (.int j :: .ref a :: st))) := by
  subst hp
  obtain ⟨cl, A, -, Sz, Nn, H, -⟩ := V
  exact Ends.of (fun _ q => X.aaload hx (j := j) (v := v) (by rw [eT]; exact A.1) (State.isArrayOf_alike hZ.alike A.2.1) hr A.2.2 (inb_of Sz hj) (H.at (inb_of Sz hj) hv) (g := mkF m pc Ls (.int j :: .ref a :: st)) rfl rfl (hb hby hd) _ q) kt
theorem own_iastore (X : Stand p l e R s m args below meth c T locs cells slots) (hx : p.tables.exec = Jvm.exec) (hby : c.code = bc) (hZ : Z.Warmed39 s.vm) {a : Addr} {k : ClassId} {n j : Int32} {vs : List Value} {dv : Value} {x : Int32} (v' : Int32) (hv' : x = v')
    (eT : T.heap = h) (V : Arv Z h a k .int n vs dv) (hj : ¬ j < 0 ∧ j < n) (i : Nat) (hi : j.toNatClampNeg = i) (hil : i < vs.length) (vs' : List Value) (hvs : vs.set i (.int v') = vs') (hfit : fits .int (.int v') = true) (N : Fr n0 locs) (ga : n0 ≤ a) (hd : decode bc pc = .ok (.iastore, 1)) (hp : pc + 1 = pc')
    (kt : ∀ T' h' L', Stand p l e R s m args below meth c T' L' cells slots → T'.heap = h' → Wr h h' a j.toNatClampNeg (.int v') → Arv Z h' a k .int n vs' dv → Fr n0 L' → Ends p.tables e below Fz (T'.setTop (mkF m pc' Ls st))) : Ends p.tables e below Fz (T.setTop (mkF m pc Ls (.int x :: .int j :: .ref a :: st))) := by
  subst hp hvs hv'
  obtain ⟨cl, A, q1, Sz, Nn, H, G⟩ := V
  obtain ⟨T', h', X', e', W', st⟩ := stI X hx hZ eT A (j := j) (inb_of Sz hj) (g := mkF m pc Ls (.int x :: .int j :: .ref a :: st)) rfl rfl (hb hby hd)
  exact Ends.of st (kt T' h' _ X' e' W' (Arv.set A q1 Sz Nn H G hfit W' i hi hil) (Fr.snoc X' N ga))
theorem own_lastore (X : Stand p l e R s m args below meth c T locs cells slots) (hx : p.tables.exec = Jvm.exec) (hby : c.code = bc) (hZ : Z.Warmed39 s.vm) {a : Addr} {k : ClassId} {n j : Int32} {vs : List Value} {dv : Value} {x : Int64} (v' : Int64) (hv' : x = v')
    (eT : T.heap = h) (V : Arv Z h a k .long n vs dv) (hj : ¬ j < 0 ∧ j < n) (i : Nat) (hi : j.toNatClampNeg = i) (hil : i < vs.length) (vs' : List Value) (hvs : vs.set i (.long v') = vs') (hfit : fits .long (.long v') = true) (N : Fr n0 locs) (ga : n0 ≤ a) (hd : decode bc pc = .ok (.lastore, 1)) (hp : pc + 1 = pc')
    (kt : ∀ T' h' L', Stand p l e R s m args below meth c T' L' cells slots → T'.heap = h' → Wr h h' a j.toNatClampNeg (.long v') → Arv Z h' a k .long n vs' dv → Fr n0 L' → Ends p.tables e below Fz (T'.setTop (mkF m pc' Ls st))) : Ends p.tables e below Fz (T.setTop (mkF m pc Ls (.long x :: .int j :: .ref a :: st))) := by
  subst hp hvs hv'
  obtain ⟨cl, A, q1, Sz, Nn, H, G⟩ := V
  obtain ⟨T', h', X', e', W', st⟩ := stJ X hx hZ eT A (j := j) (inb_of Sz hj) (g := mkF m pc Ls (.long x :: .int j :: .ref a :: st)) rfl rfl (hb hby hd)
  exact Ends.of st (kt T' h' _ X' e' W' (Arv.set A q1 Sz Nn H G hfit W' i hi hil) (Fr.snoc X' N ga))
theorem own_zastore (X : Stand p l e R s m args below meth c T locs cells slots) (hx : p.tables.exec = Jvm.exec) (hby : c.code = bc) (hZ : Z.Warmed39 s.vm) {a : Addr} {k : ClassId} {n j : Int32} {vs : List Value} {dv : Value} {x : Int32} (v' : Int32) (hv' : (nar .boolean x) = v')
    (eT : T.heap = h) (V : Arv Z h a k .boolean n vs dv) (hj : ¬ j < 0 ∧ j < n) (i : Nat) (hi : j.toNatClampNeg = i) (hil : i < vs.length) (vs' : List Value) (hvs : vs.set i (.int v') = vs') (hfit : fits .boolean (.int v') = true) (N : Fr n0 locs) (ga : n0 ≤ a) (hd : decode bc pc = .ok (.bastore, 1)) (hp : pc + 1 = pc')
    (kt : ∀ T' h' L', Stand p l e R s m args below meth c T' L' cells slots → T'.heap = h' → Wr h h' a j.toNatClampNeg (.int v') → Arv Z h' a k .boolean n vs' dv → Fr n0 L' → Ends p.tables e below Fz (T'.setTop (mkF m pc' Ls st))) : Ends p.tables e below Fz (T.setTop (mkF m pc Ls (.int x :: .int j :: .ref a :: st))) := by
  subst hp hvs hv'
  obtain ⟨cl, A, q1, Sz, Nn, H, G⟩ := V
  obtain ⟨T', h', X', e', W', st⟩ := stZ X hx hZ eT A (j := j) (inb_of Sz hj) (g := mkF m pc Ls (.int x :: .int j :: .ref a :: st)) rfl rfl (hb hby hd)
  exact Ends.of st (kt T' h' _ X' e' W' (Arv.set A q1 Sz Nn H G hfit W' i hi hil) (Fr.snoc X' N ga))
theorem own_ldc2J (X : Stand p l e R s m args below meth c T locs cells slots) (hx : p.tables.exec = Jvm.exec) (hby : c.code = bc) (hZ : Z.Warmed39 s.vm) {own : String} {index : Nat} {v : Int64}
    (hown : s.vm.findClass own = some m.cls) (w : (Jvm.Cond.constantLong own index v).before a0 Z = true) (hd : decode bc pc = .ok (.ldc2_w index, 3)) (hp : pc + 3 = pc')
    (kt : Ends p.tables e below Fz (T.setTop (mkF m pc' Ls (.long v :: st)))) : Ends p.tables e below Fz (T.setTop (mkF m pc Ls st)) := by
  subst hp; exact Ends.of (X.ldc2Long hx hown (mvT hZ w) (g := mkF m pc Ls st) rfl (hb hby hd)) kt
theorem own_ge {b : Addr} (O : Old Z n0 h) (g : b = h.size) : n0 ≤ b := by rw [g]; exact O.1 ▸ O.2.1
theorem own_lt {x b : Addr} (hx : x < h.size) (g : b = h.size) : x ≠ b := by rw [g]; exact Nat.ne_of_lt hx
theorem own_private (X : Stand p l e R s m args below meth c T locs cells slots) (hx : p.tables.exec = Jvm.exec) (hby : c.code = bc) (hZ : Z.Warmed39 s.vm) {own Ce : String} {index kk : Nat} {y : MethodName} {bytes : ByteArray} {maxL : Nat} {rt r : Option FieldType} {ps : List FieldType} {rm : Room} {a : Addr} {argsL rest : List Value} {Qc : Option Value → Heap → List Loc → Prop} {W : Nat}
    (hown : s.vm.findClass own = some m.cls) (w1 : (Jvm.Cond.methodLink own index y).before a0 Z = true) (wi : (Jvm.Cond.instantiable y.cls kk).before a0 Z = true) (wp : (Jvm.Cond.privateMethod y).before a0 Z = true) (w2 : (Jvm.Cond.instanceMethod y).before a0 Z = true) (w3 : (Jvm.Cond.initialized y.cls).before a0 Z = true) (w4 : (Jvm.Cond.code y bytes maxL rt).before a0 Z = true) (hy : y.cls ≠ "java/lang/invoke/MethodHandle" ∧ y.cls ≠ "java/lang/invoke/VarHandle")
    (hM : OwnMet l Z y bytes maxL rt [] rm (Value.ref a :: argsL).toArray h Qc) (E : Exa Z h a Ce) (eT : T.heap = h) (hml : Ls.size = c.maxLocals) (hlen : parseMethodDescriptor y.desc = some ⟨ps, r⟩) (hl : argsL.length = ps.length) (hf : rm.frames + 1 ≤ R.frames) (hW : (rest.map fun v => v.category).sum ≤ W) (hlo : W + (maxL + 11) + rm.locals ≤ R.locals) (hc : cells + rm.cells ≤ R.cells) (hs : slots + rm.slots ≤ R.slots)
    (hd : decode bc pc = .ok (.invokevirtual index, 3)) (hp : pc + 3 = pc') (hst : st = argsL.reverse ++ Value.ref a :: rest)
    (kt : ∀ v T' L, Stand p l e R s m args below meth c T' (locs ++ L) (cells + rm.cells) (slots + rm.slots) → Qc v T'.heap L → Ends p.tables e below Fz (T'.setTop (mkF m pc' Ls (v.toList ++ rest)))) : Ends p.tables e below Fz (T.setTop (mkF m pc Ls st)) := by
  subst hp hst
  have hi : (Jvm.Cond.instantiable y.cls kk).before args s = true := mvT hZ wi
  obtain ⟨c2, kP, i1, hkP, -, i4, -⟩ := Jvm.Cond.instantiable_spec hi
  have hkPi : kP.isInterface = false := by simp only [Bool.or_eq_false_iff] at i4; exact i4.1
  have hpriv := Jvm.Cond.privateMethod_at (mvP hZ wp (args := #[]))
  have hinst : (Jvm.Cond.instanceMethod y).before args s = true := mvT hZ w2
  have hsel := Jvm.Stand.selects_self_of_private (args := args) i1 hkP hkPi hpriv hinst hy
  obtain ⟨cell, q1, q2⟩ := E.cell
  obtain ⟨v, vm₁, ⟨T', L', k', n'⟩, -, X', ⟨Lc, hQ, l', y', z'⟩, st⟩ := X.privateBack hx (y := y) hown (mvT hZ w1) hinst hsel hpriv (mvT hZ w4) hy (backOf (W := W) hM hZ w4 w3 hf hlo) (g := mkF m pc Ls (argsL.reverse ++ Value.ref a :: rest)) rfl hml (Steps.refl _) (a := a) (by rw [eT]; exact q1) q2 (argsL := argsL) (rest := rest) (lenOf hlen hl) rfl (by show 2 * 0 + _ ≤ _; omega) (hb hby hd) (fun _ _ => ⟨rfl, eT, hc, hs⟩)
  dsimp only [Pt.U, Pt.locs, Pt.cells, Pt.slots] at X' l' y' z' st hQ
  subst l' y' z'
  exact Ends.tr st (kt v T' Lc X' hQ)
theorem own_grid (X : Stand p l e R s m args below meth c T locs cells slots) (hx : p.tables.exec = Jvm.exec) (hby : c.code = bc) (hZ : Z.Warmed39 s.vm) {own Cn ad : String} {ty : FieldType} {index : Nat} {n k : Int32}
    (hown : s.vm.findClass own = some m.cls) (hC : (FieldType.array ty).toString = Cn) (had : "[" ++ Cn = ad) (w1 : (Jvm.Cond.classLink own index ad).before a0 Z = true) (w2 : (Jvm.Cond.arrayOver (.array ty)).before a0 Z = true) (w3 : (Jvm.Cond.arrayClass ty).before a0 Z = true) (eT : T.heap = h)
    (hn : ¬ n < 0) (hk : ¬ k < 0) (N : Nat) (hN : n.toNatClampNeg = N) (cap : Nat) (hcap : k.toNatClampNeg ≤ cap) (hb8 : cap * 8 ≤ 536870912) (hb1 : N ≤ 1000) (hdf : fits ty (defaultValue ty) = true) (hdd : (defaultValue ty).isDefault = true) (hc : cells + (1 + N) ≤ R.cells) (hl : slots + (N + N * cap) ≤ R.slots)
    (hd : decode bc pc = .ok (.multianewarray index 2, 4)) (hp : pc + 4 = pc')
    (kt : ∀ T' h' b cA comp, Stand p l e R s m args below meth c T' locs (cells + (1 + N)) (slots + (N + N * cap)) → T'.heap = h' → b = h.size → Ext h h' → Arv Z h' b cA (.array ty) n (((List.range N).map fun j => b + 1 + j).map .ref) .null → (∀ j, j < N → Arr Z h' (b + 1 + j) (newA comp ty k) ty) → Ends p.tables e below Fz (T'.setTop (mkF m pc' Ls (.ref b :: st)))) : Ends p.tables e below Fz (T.setTop (mkF m pc Ls (.int k :: .int n :: st))) := by
  subst hp
  obtain ⟨T', h', cA, comp, X', e', E', V', -, -, A', st⟩ := gridM X hx hZ hown hC had w1 w2 w3 eT (g := mkF m pc Ls (.int k :: .int n :: st)) rfl (hb hby hd) rfl hn hk (xs := (List.range N).map fun j => h.size + 1 + j) hN rfl hcap hb8 hb1 hdf hdd hc hl
  exact Ends.of st (kt T' h' _ cA comp X' e' rfl E' V' (fun j hj => (A' j (h.size + 1 + j) (by rw [List.getElem?_map, List.getElem?_range hj]; rfl)).1))
end OwnH

abbrev OwnOrd (n0 x cs r0 r1 up vp ho pr re dn : Nat) : Prop := n0 ≤ x ∧ x < cs ∧ cs < r0 ∧ r0 < r1 ∧ r1 < up ∧ up < vp ∧ vp < ho ∧ ho < pr ∧ pr < re ∧ re < dn
theorem ge_up {n0 x cs r0 r1 up vp ho pr re dn : Nat} (o : OwnOrd n0 x cs r0 r1 up vp ho pr re dn) : n0 ≤ up := by omega
theorem ge_vp {n0 x cs r0 r1 up vp ho pr re dn : Nat} (o : OwnOrd n0 x cs r0 r1 up vp ho pr re dn) : n0 ≤ vp := by omega
theorem ge_ho {n0 x cs r0 r1 up vp ho pr re dn : Nat} (o : OwnOrd n0 x cs r0 r1 up vp ho pr re dn) : n0 ≤ ho := by omega
theorem ge_pr {n0 x cs r0 r1 up vp ho pr re dn : Nat} (o : OwnOrd n0 x cs r0 r1 up vp ho pr re dn) : n0 ≤ pr := by omega
theorem ge_re {n0 x cs r0 r1 up vp ho pr re dn : Nat} (o : OwnOrd n0 x cs r0 r1 up vp ho pr re dn) : n0 ≤ re := by omega
theorem ge_dn {n0 x cs r0 r1 up vp ho pr re dn : Nat} (o : OwnOrd n0 x cs r0 r1 up vp ho pr re dn) : n0 ≤ dn := by omega
theorem ne_x_up {n0 x cs r0 r1 up vp ho pr re dn : Nat} (o : OwnOrd n0 x cs r0 r1 up vp ho pr re dn) : x ≠ up := by omega
theorem ne_cs_up {n0 x cs r0 r1 up vp ho pr re dn : Nat} (o : OwnOrd n0 x cs r0 r1 up vp ho pr re dn) : cs ≠ up := by omega
theorem ne_r0_up {n0 x cs r0 r1 up vp ho pr re dn : Nat} (o : OwnOrd n0 x cs r0 r1 up vp ho pr re dn) : r0 ≠ up := by omega
theorem ne_r1_up {n0 x cs r0 r1 up vp ho pr re dn : Nat} (o : OwnOrd n0 x cs r0 r1 up vp ho pr re dn) : r1 ≠ up := by omega
theorem ne_vp_up {n0 x cs r0 r1 up vp ho pr re dn : Nat} (o : OwnOrd n0 x cs r0 r1 up vp ho pr re dn) : vp ≠ up := by omega
theorem ne_ho_up {n0 x cs r0 r1 up vp ho pr re dn : Nat} (o : OwnOrd n0 x cs r0 r1 up vp ho pr re dn) : ho ≠ up := by omega
theorem ne_pr_up {n0 x cs r0 r1 up vp ho pr re dn : Nat} (o : OwnOrd n0 x cs r0 r1 up vp ho pr re dn) : pr ≠ up := by omega
theorem ne_re_up {n0 x cs r0 r1 up vp ho pr re dn : Nat} (o : OwnOrd n0 x cs r0 r1 up vp ho pr re dn) : re ≠ up := by omega
theorem ne_dn_up {n0 x cs r0 r1 up vp ho pr re dn : Nat} (o : OwnOrd n0 x cs r0 r1 up vp ho pr re dn) : dn ≠ up := by omega
theorem ne_x_vp {n0 x cs r0 r1 up vp ho pr re dn : Nat} (o : OwnOrd n0 x cs r0 r1 up vp ho pr re dn) : x ≠ vp := by omega
theorem ne_cs_vp {n0 x cs r0 r1 up vp ho pr re dn : Nat} (o : OwnOrd n0 x cs r0 r1 up vp ho pr re dn) : cs ≠ vp := by omega
theorem ne_r0_vp {n0 x cs r0 r1 up vp ho pr re dn : Nat} (o : OwnOrd n0 x cs r0 r1 up vp ho pr re dn) : r0 ≠ vp := by omega
theorem ne_r1_vp {n0 x cs r0 r1 up vp ho pr re dn : Nat} (o : OwnOrd n0 x cs r0 r1 up vp ho pr re dn) : r1 ≠ vp := by omega
theorem ne_up_vp {n0 x cs r0 r1 up vp ho pr re dn : Nat} (o : OwnOrd n0 x cs r0 r1 up vp ho pr re dn) : up ≠ vp := by omega
theorem ne_ho_vp {n0 x cs r0 r1 up vp ho pr re dn : Nat} (o : OwnOrd n0 x cs r0 r1 up vp ho pr re dn) : ho ≠ vp := by omega
theorem ne_pr_vp {n0 x cs r0 r1 up vp ho pr re dn : Nat} (o : OwnOrd n0 x cs r0 r1 up vp ho pr re dn) : pr ≠ vp := by omega
theorem ne_re_vp {n0 x cs r0 r1 up vp ho pr re dn : Nat} (o : OwnOrd n0 x cs r0 r1 up vp ho pr re dn) : re ≠ vp := by omega
theorem ne_dn_vp {n0 x cs r0 r1 up vp ho pr re dn : Nat} (o : OwnOrd n0 x cs r0 r1 up vp ho pr re dn) : dn ≠ vp := by omega
theorem ne_x_ho {n0 x cs r0 r1 up vp ho pr re dn : Nat} (o : OwnOrd n0 x cs r0 r1 up vp ho pr re dn) : x ≠ ho := by omega
theorem ne_cs_ho {n0 x cs r0 r1 up vp ho pr re dn : Nat} (o : OwnOrd n0 x cs r0 r1 up vp ho pr re dn) : cs ≠ ho := by omega
theorem ne_r0_ho {n0 x cs r0 r1 up vp ho pr re dn : Nat} (o : OwnOrd n0 x cs r0 r1 up vp ho pr re dn) : r0 ≠ ho := by omega
theorem ne_r1_ho {n0 x cs r0 r1 up vp ho pr re dn : Nat} (o : OwnOrd n0 x cs r0 r1 up vp ho pr re dn) : r1 ≠ ho := by omega
theorem ne_up_ho {n0 x cs r0 r1 up vp ho pr re dn : Nat} (o : OwnOrd n0 x cs r0 r1 up vp ho pr re dn) : up ≠ ho := by omega
theorem ne_vp_ho {n0 x cs r0 r1 up vp ho pr re dn : Nat} (o : OwnOrd n0 x cs r0 r1 up vp ho pr re dn) : vp ≠ ho := by omega
theorem ne_pr_ho {n0 x cs r0 r1 up vp ho pr re dn : Nat} (o : OwnOrd n0 x cs r0 r1 up vp ho pr re dn) : pr ≠ ho := by omega
theorem ne_re_ho {n0 x cs r0 r1 up vp ho pr re dn : Nat} (o : OwnOrd n0 x cs r0 r1 up vp ho pr re dn) : re ≠ ho := by omega
theorem ne_dn_ho {n0 x cs r0 r1 up vp ho pr re dn : Nat} (o : OwnOrd n0 x cs r0 r1 up vp ho pr re dn) : dn ≠ ho := by omega
theorem ne_x_pr {n0 x cs r0 r1 up vp ho pr re dn : Nat} (o : OwnOrd n0 x cs r0 r1 up vp ho pr re dn) : x ≠ pr := by omega
theorem ne_cs_pr {n0 x cs r0 r1 up vp ho pr re dn : Nat} (o : OwnOrd n0 x cs r0 r1 up vp ho pr re dn) : cs ≠ pr := by omega
theorem ne_r0_pr {n0 x cs r0 r1 up vp ho pr re dn : Nat} (o : OwnOrd n0 x cs r0 r1 up vp ho pr re dn) : r0 ≠ pr := by omega
theorem ne_r1_pr {n0 x cs r0 r1 up vp ho pr re dn : Nat} (o : OwnOrd n0 x cs r0 r1 up vp ho pr re dn) : r1 ≠ pr := by omega
theorem ne_up_pr {n0 x cs r0 r1 up vp ho pr re dn : Nat} (o : OwnOrd n0 x cs r0 r1 up vp ho pr re dn) : up ≠ pr := by omega
theorem ne_vp_pr {n0 x cs r0 r1 up vp ho pr re dn : Nat} (o : OwnOrd n0 x cs r0 r1 up vp ho pr re dn) : vp ≠ pr := by omega
theorem ne_ho_pr {n0 x cs r0 r1 up vp ho pr re dn : Nat} (o : OwnOrd n0 x cs r0 r1 up vp ho pr re dn) : ho ≠ pr := by omega
theorem ne_re_pr {n0 x cs r0 r1 up vp ho pr re dn : Nat} (o : OwnOrd n0 x cs r0 r1 up vp ho pr re dn) : re ≠ pr := by omega
theorem ne_dn_pr {n0 x cs r0 r1 up vp ho pr re dn : Nat} (o : OwnOrd n0 x cs r0 r1 up vp ho pr re dn) : dn ≠ pr := by omega
theorem ne_x_re {n0 x cs r0 r1 up vp ho pr re dn : Nat} (o : OwnOrd n0 x cs r0 r1 up vp ho pr re dn) : x ≠ re := by omega
theorem ne_cs_re {n0 x cs r0 r1 up vp ho pr re dn : Nat} (o : OwnOrd n0 x cs r0 r1 up vp ho pr re dn) : cs ≠ re := by omega
theorem ne_r0_re {n0 x cs r0 r1 up vp ho pr re dn : Nat} (o : OwnOrd n0 x cs r0 r1 up vp ho pr re dn) : r0 ≠ re := by omega
theorem ne_r1_re {n0 x cs r0 r1 up vp ho pr re dn : Nat} (o : OwnOrd n0 x cs r0 r1 up vp ho pr re dn) : r1 ≠ re := by omega
theorem ne_up_re {n0 x cs r0 r1 up vp ho pr re dn : Nat} (o : OwnOrd n0 x cs r0 r1 up vp ho pr re dn) : up ≠ re := by omega
theorem ne_vp_re {n0 x cs r0 r1 up vp ho pr re dn : Nat} (o : OwnOrd n0 x cs r0 r1 up vp ho pr re dn) : vp ≠ re := by omega
theorem ne_ho_re {n0 x cs r0 r1 up vp ho pr re dn : Nat} (o : OwnOrd n0 x cs r0 r1 up vp ho pr re dn) : ho ≠ re := by omega
theorem ne_pr_re {n0 x cs r0 r1 up vp ho pr re dn : Nat} (o : OwnOrd n0 x cs r0 r1 up vp ho pr re dn) : pr ≠ re := by omega
theorem ne_dn_re {n0 x cs r0 r1 up vp ho pr re dn : Nat} (o : OwnOrd n0 x cs r0 r1 up vp ho pr re dn) : dn ≠ re := by omega
theorem ne_x_dn {n0 x cs r0 r1 up vp ho pr re dn : Nat} (o : OwnOrd n0 x cs r0 r1 up vp ho pr re dn) : x ≠ dn := by omega
theorem ne_cs_dn {n0 x cs r0 r1 up vp ho pr re dn : Nat} (o : OwnOrd n0 x cs r0 r1 up vp ho pr re dn) : cs ≠ dn := by omega
theorem ne_r0_dn {n0 x cs r0 r1 up vp ho pr re dn : Nat} (o : OwnOrd n0 x cs r0 r1 up vp ho pr re dn) : r0 ≠ dn := by omega
theorem ne_r1_dn {n0 x cs r0 r1 up vp ho pr re dn : Nat} (o : OwnOrd n0 x cs r0 r1 up vp ho pr re dn) : r1 ≠ dn := by omega
theorem ne_up_dn {n0 x cs r0 r1 up vp ho pr re dn : Nat} (o : OwnOrd n0 x cs r0 r1 up vp ho pr re dn) : up ≠ dn := by omega
theorem ne_vp_dn {n0 x cs r0 r1 up vp ho pr re dn : Nat} (o : OwnOrd n0 x cs r0 r1 up vp ho pr re dn) : vp ≠ dn := by omega
theorem ne_ho_dn {n0 x cs r0 r1 up vp ho pr re dn : Nat} (o : OwnOrd n0 x cs r0 r1 up vp ho pr re dn) : ho ≠ dn := by omega
theorem ne_pr_dn {n0 x cs r0 r1 up vp ho pr re dn : Nat} (o : OwnOrd n0 x cs r0 r1 up vp ho pr re dn) : pr ≠ dn := by omega
theorem ne_re_dn {n0 x cs r0 r1 up vp ho pr re dn : Nat} (o : OwnOrd n0 x cs r0 r1 up vp ho pr re dn) : re ≠ dn := by omega
theorem ne_x_r0 {n0 x cs r0 r1 up vp ho pr re dn : Nat} (o : OwnOrd n0 x cs r0 r1 up vp ho pr re dn) : x ≠ r0 := by omega
theorem ne_cs_r0 {n0 x cs r0 r1 up vp ho pr re dn : Nat} (o : OwnOrd n0 x cs r0 r1 up vp ho pr re dn) : cs ≠ r0 := by omega
theorem ne_r1_r0 {n0 x cs r0 r1 up vp ho pr re dn : Nat} (o : OwnOrd n0 x cs r0 r1 up vp ho pr re dn) : r1 ≠ r0 := by omega
theorem ne_up_r0 {n0 x cs r0 r1 up vp ho pr re dn : Nat} (o : OwnOrd n0 x cs r0 r1 up vp ho pr re dn) : up ≠ r0 := by omega
theorem ne_vp_r0 {n0 x cs r0 r1 up vp ho pr re dn : Nat} (o : OwnOrd n0 x cs r0 r1 up vp ho pr re dn) : vp ≠ r0 := by omega
theorem ne_ho_r0 {n0 x cs r0 r1 up vp ho pr re dn : Nat} (o : OwnOrd n0 x cs r0 r1 up vp ho pr re dn) : ho ≠ r0 := by omega
theorem ne_pr_r0 {n0 x cs r0 r1 up vp ho pr re dn : Nat} (o : OwnOrd n0 x cs r0 r1 up vp ho pr re dn) : pr ≠ r0 := by omega
theorem ne_re_r0 {n0 x cs r0 r1 up vp ho pr re dn : Nat} (o : OwnOrd n0 x cs r0 r1 up vp ho pr re dn) : re ≠ r0 := by omega
theorem ne_dn_r0 {n0 x cs r0 r1 up vp ho pr re dn : Nat} (o : OwnOrd n0 x cs r0 r1 up vp ho pr re dn) : dn ≠ r0 := by omega
theorem ne_x_r1 {n0 x cs r0 r1 up vp ho pr re dn : Nat} (o : OwnOrd n0 x cs r0 r1 up vp ho pr re dn) : x ≠ r1 := by omega
theorem ne_cs_r1 {n0 x cs r0 r1 up vp ho pr re dn : Nat} (o : OwnOrd n0 x cs r0 r1 up vp ho pr re dn) : cs ≠ r1 := by omega
theorem ne_r0_r1 {n0 x cs r0 r1 up vp ho pr re dn : Nat} (o : OwnOrd n0 x cs r0 r1 up vp ho pr re dn) : r0 ≠ r1 := by omega
theorem ne_up_r1 {n0 x cs r0 r1 up vp ho pr re dn : Nat} (o : OwnOrd n0 x cs r0 r1 up vp ho pr re dn) : up ≠ r1 := by omega
theorem ne_vp_r1 {n0 x cs r0 r1 up vp ho pr re dn : Nat} (o : OwnOrd n0 x cs r0 r1 up vp ho pr re dn) : vp ≠ r1 := by omega
theorem ne_ho_r1 {n0 x cs r0 r1 up vp ho pr re dn : Nat} (o : OwnOrd n0 x cs r0 r1 up vp ho pr re dn) : ho ≠ r1 := by omega
theorem ne_pr_r1 {n0 x cs r0 r1 up vp ho pr re dn : Nat} (o : OwnOrd n0 x cs r0 r1 up vp ho pr re dn) : pr ≠ r1 := by omega
theorem ne_re_r1 {n0 x cs r0 r1 up vp ho pr re dn : Nat} (o : OwnOrd n0 x cs r0 r1 up vp ho pr re dn) : re ≠ r1 := by omega
theorem ne_dn_r1 {n0 x cs r0 r1 up vp ho pr re dn : Nat} (o : OwnOrd n0 x cs r0 r1 up vp ho pr re dn) : dn ≠ r1 := by omega
theorem ge_r0 {n0 x cs r0 r1 up vp ho pr re dn : Nat} (o : OwnOrd n0 x cs r0 r1 up vp ho pr re dn) : n0 ≤ r0 := by omega
theorem ge_r1 {n0 x cs r0 r1 up vp ho pr re dn : Nat} (o : OwnOrd n0 x cs r0 r1 up vp ho pr re dn) : n0 ≤ r1 := by omega
def OwnB (Z : State) (h : Heap) (x cs r0 r1 up vp ho pr re dn : Addr) (kc k0 k1 : ClassId) (ca cb cc cd : Int64) : Prop := Exa Z h x "com/example/weftwork/weftwork/algorithm/Assignment" ∧ Fld Z h x "com/example/weftwork/weftwork/algorithm/Assignment" "costs" "[[J" (.ref cs) ∧ Fld Z h x "com/example/weftwork/weftwork/algorithm/Assignment" "rowPotential" "[J" (.ref up) ∧ Fld Z h x "com/example/weftwork/weftwork/algorithm/Assignment" "columnPotential" "[J" (.ref vp) ∧ Fld Z h x "com/example/weftwork/weftwork/algorithm/Assignment" "holder" "[I" (.ref ho) ∧ Fld Z h x "com/example/weftwork/weftwork/algorithm/Assignment" "previous" "[I" (.ref pr) ∧ Fld Z h x "com/example/weftwork/weftwork/algorithm/Assignment" "reach" "[J" (.ref re) ∧ Fld Z h x "com/example/weftwork/weftwork/algorithm/Assignment" "done" "[Z" (.ref dn) ∧ Arv Z h cs kc (.array .long) (2 : Int32) [.ref r0, .ref r1] .null ∧ Arv Z h r0 k0 .long (2 : Int32) [.long ca, .long cb] (.long 0) ∧ Arv Z h r1 k1 .long (2 : Int32) [.long cc, .long cd] (.long 0)
theorem B_E {Z : State} {h : Heap} {x cs r0 r1 up vp ho pr re dn : Addr} {kc k0 k1 : ClassId} {ca cb cc cd : Int64} (B : OwnB Z h x cs r0 r1 up vp ho pr re dn kc k0 k1 ca cb cc cd) : Exa Z h x "com/example/weftwork/weftwork/algorithm/Assignment" := B.1
theorem B_costs {Z : State} {h : Heap} {x cs r0 r1 up vp ho pr re dn : Addr} {kc k0 k1 : ClassId} {ca cb cc cd : Int64} (B : OwnB Z h x cs r0 r1 up vp ho pr re dn kc k0 k1 ca cb cc cd) : Fld Z h x "com/example/weftwork/weftwork/algorithm/Assignment" "costs" "[[J" (.ref cs) := B.2.1
theorem B_rowPotential {Z : State} {h : Heap} {x cs r0 r1 up vp ho pr re dn : Addr} {kc k0 k1 : ClassId} {ca cb cc cd : Int64} (B : OwnB Z h x cs r0 r1 up vp ho pr re dn kc k0 k1 ca cb cc cd) : Fld Z h x "com/example/weftwork/weftwork/algorithm/Assignment" "rowPotential" "[J" (.ref up) := B.2.2.1
theorem B_columnPotential {Z : State} {h : Heap} {x cs r0 r1 up vp ho pr re dn : Addr} {kc k0 k1 : ClassId} {ca cb cc cd : Int64} (B : OwnB Z h x cs r0 r1 up vp ho pr re dn kc k0 k1 ca cb cc cd) : Fld Z h x "com/example/weftwork/weftwork/algorithm/Assignment" "columnPotential" "[J" (.ref vp) := B.2.2.2.1
theorem B_holder {Z : State} {h : Heap} {x cs r0 r1 up vp ho pr re dn : Addr} {kc k0 k1 : ClassId} {ca cb cc cd : Int64} (B : OwnB Z h x cs r0 r1 up vp ho pr re dn kc k0 k1 ca cb cc cd) : Fld Z h x "com/example/weftwork/weftwork/algorithm/Assignment" "holder" "[I" (.ref ho) := B.2.2.2.2.1
theorem B_previous {Z : State} {h : Heap} {x cs r0 r1 up vp ho pr re dn : Addr} {kc k0 k1 : ClassId} {ca cb cc cd : Int64} (B : OwnB Z h x cs r0 r1 up vp ho pr re dn kc k0 k1 ca cb cc cd) : Fld Z h x "com/example/weftwork/weftwork/algorithm/Assignment" "previous" "[I" (.ref pr) := B.2.2.2.2.2.1
theorem B_reach {Z : State} {h : Heap} {x cs r0 r1 up vp ho pr re dn : Addr} {kc k0 k1 : ClassId} {ca cb cc cd : Int64} (B : OwnB Z h x cs r0 r1 up vp ho pr re dn kc k0 k1 ca cb cc cd) : Fld Z h x "com/example/weftwork/weftwork/algorithm/Assignment" "reach" "[J" (.ref re) := B.2.2.2.2.2.2.1
theorem B_done {Z : State} {h : Heap} {x cs r0 r1 up vp ho pr re dn : Addr} {kc k0 k1 : ClassId} {ca cb cc cd : Int64} (B : OwnB Z h x cs r0 r1 up vp ho pr re dn kc k0 k1 ca cb cc cd) : Fld Z h x "com/example/weftwork/weftwork/algorithm/Assignment" "done" "[Z" (.ref dn) := B.2.2.2.2.2.2.2.1
theorem B_cs {Z : State} {h : Heap} {x cs r0 r1 up vp ho pr re dn : Addr} {kc k0 k1 : ClassId} {ca cb cc cd : Int64} (B : OwnB Z h x cs r0 r1 up vp ho pr re dn kc k0 k1 ca cb cc cd) : Arv Z h cs kc (.array .long) (2 : Int32) [.ref r0, .ref r1] .null := B.2.2.2.2.2.2.2.2.1
theorem B_r0 {Z : State} {h : Heap} {x cs r0 r1 up vp ho pr re dn : Addr} {kc k0 k1 : ClassId} {ca cb cc cd : Int64} (B : OwnB Z h x cs r0 r1 up vp ho pr re dn kc k0 k1 ca cb cc cd) : Arv Z h r0 k0 .long (2 : Int32) [.long ca, .long cb] (.long 0) := B.2.2.2.2.2.2.2.2.2.1
theorem B_r1 {Z : State} {h : Heap} {x cs r0 r1 up vp ho pr re dn : Addr} {kc k0 k1 : ClassId} {ca cb cc cd : Int64} (B : OwnB Z h x cs r0 r1 up vp ho pr re dn kc k0 k1 ca cb cc cd) : Arv Z h r1 k1 .long (2 : Int32) [.long cc, .long cd] (.long 0) := B.2.2.2.2.2.2.2.2.2.2
theorem own_Bw {Z : State} {h h' : Heap} {x cs r0 r1 up vp ho pr re dn : Addr} {kc k0 k1 : ClassId} {ca cb cc cd : Int64} {y : Addr} {i : Nat} {v : Value} (B : OwnB Z h x cs r0 r1 up vp ho pr re dn kc k0 k1 ca cb cc cd) (W : Wr h h' y i v) (q1 : x ≠ y) (q2 : cs ≠ y) (q3 : r0 ≠ y) (q4 : r1 ≠ y) : OwnB Z h' x cs r0 r1 up vp ho pr re dn kc k0 k1 ca cb cc cd := ⟨(B_E B).wr W, (B_costs B).other W (Or.inl q1), (B_rowPotential B).other W (Or.inl q1), (B_columnPotential B).other W (Or.inl q1), (B_holder B).other W (Or.inl q1), (B_previous B).other W (Or.inl q1), (B_reach B).other W (Or.inl q1), (B_done B).other W (Or.inl q1), (B_cs B).other W q2, (B_r0 B).other W q3, (B_r1 B).other W q4⟩
theorem own_Bk {Z : State} {h h' : Heap} {x cs r0 r1 up vp ho pr re dn : Addr} {kc k0 k1 : ClassId} {ca cb cc cd : Int64} {y : Addr} (B : OwnB Z h x cs r0 r1 up vp ho pr re dn kc k0 k1 ca cb cc cd) (W : Keep h h' [y]) (q1 : x ≠ y) (q2 : cs ≠ y) (q3 : r0 ≠ y) (q4 : r1 ≠ y) : OwnB Z h' x cs r0 r1 up vp ho pr re dn kc k0 k1 ca cb cc cd := ⟨(B_E B).keep W, (B_costs B).keep W (ninS q1 nin0), (B_rowPotential B).keep W (ninS q1 nin0), (B_columnPotential B).keep W (ninS q1 nin0), (B_holder B).keep W (ninS q1 nin0), (B_previous B).keep W (ninS q1 nin0), (B_reach B).keep W (ninS q1 nin0), (B_done B).keep W (ninS q1 nin0), (B_cs B).keep W (ninS q2 nin0), (B_r0 B).keep W (ninS q3 nin0), (B_r1 B).keep W (ninS q4 nin0)⟩

abbrev OwnPair (s t : Slot) : Prop := (s = .unset ∧ t = .unset) ∨ ∃ w : Int64, s = .val (.long w) ∧ t = .second
theorem own_st10 {b0 b1 b2 b3 b4 b5 b6 b7 b8 b9 s10 s11 s12 s13 : Slot} {y : Int64} (h : OwnPair s10 s11) : storeLocals #[b0, b1, b2, b3, b4, b5, b6, b7, b8, b9, s10, s11, s12, s13] 10 (.long y) = some #[b0, b1, b2, b3, b4, b5, b6, b7, b8, b9, .val (.long y), .second, s12, s13] := by
  rcases h with ⟨rfl, rfl⟩ | ⟨w, rfl, rfl⟩ <;> rfl
theorem own_st12 {b0 b1 b2 b3 b4 b5 b6 b7 b8 b9 s10 s11 s12 s13 : Slot} {y : Int64} (h : OwnPair s12 s13) : storeLocals #[b0, b1, b2, b3, b4, b5, b6, b7, b8, b9, s10, s11, s12, s13] 12 (.long y) = some #[b0, b1, b2, b3, b4, b5, b6, b7, b8, b9, s10, s11, .val (.long y), .second] := by
  rcases h with ⟨rfl, rfl⟩ | ⟨w, rfl, rfl⟩ <;> rfl
abbrev OwnBd (u : Int64) : Prop := -3458764513820540928 ≤ u.toInt ∧ u.toInt ≤ 3458764513820540928
abbrev OwnCost (c : Int64) : Prop := c.toInt = 9223372036854775807 ∨ (0 ≤ c.toInt ∧ c.toInt < 1152921504606846976)
theorem own_b0 : OwnBd (0 : Int64) := by decide
theorem own_iN : (9223372036854775807 : Int64).toInt = 9223372036854775807 := by decide
theorem own_nti {a b : Int32} (h : ¬ a = b) : ¬ a.toInt = b.toInt := fun q => h (Int32.toInt_inj.mp q)
theorem own_ntl {a b : Int64} (h : ¬ a = b) : ¬ a.toInt = b.toInt := fun q => h (Int64.toInt_inj.mp q)
theorem own_sub2 {c u v : Int64} (hc : 0 ≤ c.toInt ∧ c.toInt < 1152921504606846976) (hu : OwnBd u) (hv : OwnBd v) : (c - u - v).toInt = c.toInt - u.toInt - v.toInt := by
  have k1 := c_lsub c u; have k2 := c_lsub (c - u) v; have q1 := rng64 (c - u); have q2 := rng64 (c - u - v); omega
theorem own_addd {u d : Int64} (hu : OwnBd u) (hd : 0 ≤ d.toInt ∧ d.toInt ≤ 1152921504606846976) : (u + d).toInt = u.toInt + d.toInt := by
  have k1 := c_ladd u d; have q1 := rng64 (u + d); omega
theorem own_subd {u d : Int64} (hu : OwnBd u) (hd : 0 ≤ d.toInt ∧ d.toInt ≤ 1152921504606846976) : (u - d).toInt = u.toInt - d.toInt := by
  have k1 := c_lsub u d; have q1 := rng64 (u - d); omega
theorem own_negd {u : Int64} (hu : OwnBd u) : (-u).toInt = -u.toInt := by
  have k1 := c_lneg u; have q1 := rng64 (-u); omega
theorem own_costn {c : Int64} (h : OwnCost c) (q : ¬ c = (9223372036854775807 : Int64)) : 0 ≤ c.toInt ∧ c.toInt < 1152921504606846976 := by
  have k := own_ntl q; rw [own_iN] at k; omega
abbrev OwnScan (c u v Q g Q' g' : Int64) (P n col t P' n' : Int32) : Prop :=
  ((c.toInt = 9223372036854775807 ∧ Q'.toInt = Q.toInt ∧ P'.toInt = P.toInt) ∨ (c.toInt ≠ 9223372036854775807 ∧ Q.toInt ≤ c.toInt - u.toInt - v.toInt ∧ Q'.toInt = Q.toInt ∧ P'.toInt = P.toInt) ∨ (c.toInt ≠ 9223372036854775807 ∧ c.toInt - u.toInt - v.toInt < Q.toInt ∧ Q'.toInt = c.toInt - u.toInt - v.toInt ∧ P'.toInt = col.toInt)) ∧ ((Q'.toInt < g.toInt ∧ g'.toInt = Q'.toInt ∧ n'.toInt = t.toInt) ∨ (g.toInt ≤ Q'.toInt ∧ g'.toInt = g.toInt ∧ n'.toInt = n.toInt))
abbrev OwnSel (p q g Q1 Q2 : Int64) (P2 : Int32) : Prop := p.toInt ≠ 9223372036854775807 ∧ g.toInt = p.toInt ∧ Q1.toInt = p.toInt ∧ ((q.toInt = 9223372036854775807 ∧ Q2.toInt = 9223372036854775807) ∨ (q.toInt ≠ 9223372036854775807 ∧ p.toInt ≤ q.toInt ∧ Q2.toInt = q.toInt ∧ P2.toInt = 0))
theorem own_selA {p q Q1 g1 Q2 g2 : Int64} {P1 P2 P1' P2' n1 n2 : Int32} (hp : OwnCost p) (hq : OwnCost q) (hpq : ¬ (p.toInt = 9223372036854775807 ∧ q.toInt = 9223372036854775807)) (e1 : OwnScan p 0 0 (9223372036854775807 : Int64) (9223372036854775807 : Int64) Q1 g1 P1 (-1) 0 1 P1' n1) (e2 : OwnScan q 0 0 (9223372036854775807 : Int64) g1 Q2 g2 P2 n1 0 2 P2' n2) :
    (n2 = 1 ∧ P1' = 0 ∧ OwnSel p q g2 Q1 Q2 P2') ∨ (n2 = 2 ∧ P2' = 0 ∧ OwnSel q p g2 Q2 Q1 P1') := by
  have k0 : (0 : Int64).toInt = 0 := rfl
  have kN := own_iN
  have j0 : (0 : Int32).toInt = 0 := rfl
  have j1 : (1 : Int32).toInt = 1 := rfl
  have j2 : (2 : Int32).toInt = 2 := rfl
  have jm : (-1 : Int32).toInt = -1 := rfl
  unfold OwnScan at e1 e2
  simp only [k0, kN, j0, j1, j2, jm] at e1 e2
  obtain ⟨a1, b1⟩ := e1
  obtain ⟨a2, b2⟩ := e2
  rcases a1 with a1 | a1 | a1 <;> rcases a2 with a2 | a2 | a2 <;> rcases b1 with b1 | b1 <;> rcases b2 with b2 | b2 <;> first
    | (exfalso; omega)
    | (exact Or.inl ⟨Int32.toInt_inj.mp (by omega), Int32.toInt_inj.mp (by omega), by omega, by omega, by omega, by omega⟩)
    | (exact Or.inr ⟨Int32.toInt_inj.mp (by omega), Int32.toInt_inj.mp (by omega), by omega, by omega, by omega, by omega⟩)
theorem own_selB {c0 c1 cj U1 Q Q' g' : Int64} {P P' n' j t : Int32} (h0 : OwnCost c0) (h1 : OwnCost c1) (hj : 0 ≤ cj.toInt ∧ cj.toInt < 1152921504606846976) (hU : 0 ≤ U1.toInt ∧ U1.toInt < 1152921504606846976) (h01 : ¬ (c0.toInt = 9223372036854775807 ∧ c1.toInt = 9223372036854775807)) (hle : c0.toInt = 9223372036854775807 ∨ U1.toInt ≤ c0.toInt)
    (hQ : (c1.toInt = 9223372036854775807 ∧ Q.toInt = 9223372036854775807) ∨ (c1.toInt ≠ 9223372036854775807 ∧ cj.toInt ≤ c1.toInt ∧ Q.toInt = c1.toInt - cj.toInt ∧ P.toInt = 0)) (e1 : OwnScan c0 U1 0 Q (9223372036854775807 : Int64) Q' g' P (-1) j t P' n') :
    n' = t ∧ (0 ≤ g'.toInt ∧ g'.toInt < 1152921504606846976) ∧ Q'.toInt = g'.toInt ∧ (c0.toInt = 9223372036854775807 ∨ g'.toInt ≤ c0.toInt - U1.toInt) ∧ (c1.toInt = 9223372036854775807 ∨ g'.toInt ≤ c1.toInt - cj.toInt) ∧ ((P' = 0 ∧ c1.toInt ≠ 9223372036854775807 ∧ g'.toInt = c1.toInt - cj.toInt) ∨ (P' = j ∧ c0.toInt ≠ 9223372036854775807 ∧ g'.toInt = c0.toInt - U1.toInt)) := by
  have k0 : (0 : Int64).toInt = 0 := rfl
  have kN := own_iN
  have j0 : (0 : Int32).toInt = 0 := rfl
  unfold OwnScan at e1
  simp only [k0, kN] at e1
  obtain ⟨a1, b1⟩ := e1
  rcases a1 with a1 | a1 | a1 <;> rcases b1 with b1 | b1 <;> first
    | (exfalso; omega)
    | (exact ⟨Int32.toInt_inj.mp (by omega), by omega, by omega, by omega, by omega, Or.inl ⟨Int32.toInt_inj.mp (by omega), by omega, by omega⟩⟩)
    | (exact ⟨Int32.toInt_inj.mp (by omega), by omega, by omega, by omega, by omega, Or.inr ⟨Int32.toInt_inj.mp (by omega), by omega, by omega⟩⟩)
abbrev OwnDual (ca cb cc cd U1 U2 V0 V1 V2 : Int64) : Prop := OwnBd U1 ∧ OwnBd U2 ∧ OwnBd V0 ∧ OwnBd V1 ∧ OwnBd V2 ∧ (ca.toInt = 9223372036854775807 ∨ U1.toInt + V1.toInt ≤ ca.toInt) ∧ (cb.toInt = 9223372036854775807 ∨ U1.toInt + V2.toInt ≤ cb.toInt) ∧ (cc.toInt = 9223372036854775807 ∨ U2.toInt + V1.toInt ≤ cc.toInt) ∧ (cd.toInt = 9223372036854775807 ∨ U2.toInt + V2.toInt ≤ cd.toInt) ∧ V0.toInt = -(U1.toInt + U2.toInt + V1.toInt + V2.toInt) ∧
  ((ca.toInt ≠ 9223372036854775807 ∧ cd.toInt ≠ 9223372036854775807 ∧ ca.toInt = U1.toInt + V1.toInt ∧ cd.toInt = U2.toInt + V2.toInt) ∨ (cb.toInt ≠ 9223372036854775807 ∧ cc.toInt ≠ 9223372036854775807 ∧ cb.toInt = U1.toInt + V2.toInt ∧ cc.toInt = U2.toInt + V1.toInt))
theorem own_k1 {k : Int32} {P : Prop} (q : k.toInt = 1 ∨ (k.toInt = 0 ∧ P)) (h : ¬ k.toInt = (0 : Int32).toInt) : k.toInt = 1 := q.resolve_right fun r => h r.1
theorem own_g1 {k : Int32} {P Q : Prop} (q : (k.toInt = 1 ∧ P) ∨ (k.toInt = 0 ∧ Q)) (h : ¬ k.toInt = (0 : Int32).toInt) : k.toInt = 1 := (q.resolve_right fun r => h r.1).1
theorem own_l1 {k : Int32} {z c : Int64} (q : (k.toInt = 1 ∧ z.toInt = c.toInt) ∨ (k.toInt = 0 ∧ z.toInt = 9223372036854775807)) (hc : 0 ≤ c.toInt ∧ c.toInt < 1152921504606846976) : OwnCost z := by omega
theorem own_l2 {ki kj : Int32} {zi zj ci cj : Int64} {F a b : Int} (hab : a ≠ b) (p : ki.toInt = 1 ∨ (ki.toInt = 0 ∧ F = a)) (q : kj.toInt = 1 ∨ (kj.toInt = 0 ∧ F = b)) (r : (ki.toInt = 1 ∧ zi.toInt = ci.toInt) ∨ (ki.toInt = 0 ∧ zi.toInt = 9223372036854775807)) (s : (kj.toInt = 1 ∧ zj.toInt = cj.toInt) ∨ (kj.toInt = 0 ∧ zj.toInt = 9223372036854775807)) (hi : 0 ≤ ci.toInt ∧ ci.toInt < 1152921504606846976) (hj : 0 ≤ cj.toInt ∧ cj.toInt < 1152921504606846976) : ¬ (zi.toInt = 9223372036854775807 ∧ zj.toInt = 9223372036854775807) := by
  intro w; rcases r with r | r <;> rcases s with s | s <;> omega
theorem own_rcj {k : Int32} {z c U V : Int64} (q : (k.toInt = 1 ∧ z.toInt = c.toInt) ∨ (k.toInt = 0 ∧ z.toInt = 9223372036854775807)) (h : ¬ k.toInt = (0 : Int32).toInt) (hc : 0 ≤ c.toInt ∧ c.toInt < 1152921504606846976) (hU : OwnBd U) (hV : OwnBd V) : (k.toInt = 1 ∧ (z - U - V).toInt = c.toInt - U.toInt - V.toInt) ∨ (k.toInt = 0 ∧ (z - U - V).toInt = 0) := by
  have h1 := q.resolve_right fun r => h r.1
  have h2 := own_sub2 (c := z) (u := U) (v := V) (by omega) hU hV
  exact Or.inl ⟨h1.1, by omega⟩
theorem own_l4 {k : Int32} {z c U V rc : Int64} (q : (k.toInt = 1 ∧ z.toInt = c.toInt) ∨ (k.toInt = 0 ∧ z.toInt = 9223372036854775807)) (hc : 0 ≤ c.toInt ∧ c.toInt < 1152921504606846976) (r : (k.toInt = 1 ∧ rc.toInt = c.toInt - U.toInt - V.toInt) ∨ (k.toInt = 0 ∧ rc.toInt = 0)) (d : z.toInt = 9223372036854775807 ∨ U.toInt + V.toInt ≤ z.toInt) : 0 ≤ rc.toInt := by
  rcases q with q | q <;> rcases r with r | r <;> rcases d with d | d <;> omega
theorem own_l3 {k0 k1 k2 k3 g h : Int32} {z0 z1 z2 z3 c0 c1 c2 c3 U1 U2 V0 V1 V2 w D A ex : Int64}
    (q0 : (k0.toInt = 1 ∧ z0.toInt = c0.toInt) ∨ (k0.toInt = 0 ∧ z0.toInt = 9223372036854775807)) (q1 : (k1.toInt = 1 ∧ z1.toInt = c1.toInt) ∨ (k1.toInt = 0 ∧ z1.toInt = 9223372036854775807)) (q2 : (k2.toInt = 1 ∧ z2.toInt = c2.toInt) ∨ (k2.toInt = 0 ∧ z2.toInt = 9223372036854775807)) (q3 : (k3.toInt = 1 ∧ z3.toInt = c3.toInt) ∨ (k3.toInt = 0 ∧ z3.toInt = 9223372036854775807))
    (h0 : 0 ≤ c0.toInt ∧ c0.toInt < 1152921504606846976) (h1 : 0 ≤ c1.toInt ∧ c1.toInt < 1152921504606846976) (h2 : 0 ≤ c2.toInt ∧ c2.toInt < 1152921504606846976) (h3 : 0 ≤ c3.toInt ∧ c3.toInt < 1152921504606846976) (hD : D.toInt = c0.toInt + c3.toInt) (hA : A.toInt = c1.toInt + c2.toInt)
    (d1 : z0.toInt = 9223372036854775807 ∨ U1.toInt + V1.toInt ≤ z0.toInt) (d2 : z1.toInt = 9223372036854775807 ∨ U1.toInt + V2.toInt ≤ z1.toInt) (d3 : z2.toInt = 9223372036854775807 ∨ U2.toInt + V1.toInt ≤ z2.toInt) (d4 : z3.toInt = 9223372036854775807 ∨ U2.toInt + V2.toInt ≤ z3.toInt) (d5 : V0.toInt = -(U1.toInt + U2.toInt + V1.toInt + V2.toInt))
    (d6 : (z0.toInt ≠ 9223372036854775807 ∧ z3.toInt ≠ 9223372036854775807 ∧ z0.toInt = U1.toInt + V1.toInt ∧ z3.toInt = U2.toInt + V2.toInt) ∨ (z1.toInt ≠ 9223372036854775807 ∧ z2.toInt ≠ 9223372036854775807 ∧ z1.toInt = U1.toInt + V2.toInt ∧ z2.toInt = U2.toInt + V1.toInt)) (hw : w.toInt = -V0.toInt)
    (qg : (g.toInt = 1 ∧ k0.toInt = 1 ∧ k3.toInt = 1) ∨ (g.toInt = 0 ∧ (k0.toInt = 0 ∨ k3.toInt = 0))) (qh : (h.toInt = 1 ∧ k1.toInt = 1 ∧ k2.toInt = 1) ∨ (h.toInt = 0 ∧ (k1.toInt = 0 ∨ k2.toInt = 0)))
    (qe : (g.toInt = 1 ∧ h.toInt = 1 ∧ ex.toInt ≤ D.toInt ∧ ex.toInt ≤ A.toInt ∧ (ex.toInt = D.toInt ∨ ex.toInt = A.toInt)) ∨ (g.toInt = 1 ∧ h.toInt = 0 ∧ ex.toInt = D.toInt) ∨ (g.toInt = 0 ∧ ex.toInt = A.toInt)) : w = ex := by
  apply Int64.toInt_inj.mp
  rcases d6 with d6 | d6
  · have e0 := q0.resolve_right (by omega); have e3 := q3.resolve_right (by omega)
    have eg := qg.resolve_right (by omega)
    rcases qe with qe | qe | qe
    · have eh := qh.resolve_right (by omega)
      have e1 := q1.resolve_right (by omega); have e2 := q2.resolve_right (by omega)
      have f2 := d2.resolve_left (by omega); have f3 := d3.resolve_left (by omega)
      rcases qe.2.2.2.2 with w' | w' <;> omega
    · omega
    · omega
  · have e1 := q1.resolve_right (by omega); have e2 := q2.resolve_right (by omega)
    have eh := qh.resolve_right (by omega)
    rcases qe with qe | qe | qe
    · have eg := qg.resolve_right (by omega)
      have e0 := q0.resolve_right (by omega); have e3 := q3.resolve_right (by omega)
      have f1 := d1.resolve_left (by omega); have f4 := d4.resolve_left (by omega)
      rcases qe.2.2.2.2 with w' | w' <;> omega
    · omega
    · omega
theorem own_l5 {k0 k1 k2 k3 g h td ta : Int32} {z0 z1 z2 z3 c0 c1 c2 c3 U1 U2 V0 V1 V2 w D A r0 r1 r2 r3 : Int64}
    (q0 : (k0.toInt = 1 ∧ z0.toInt = c0.toInt) ∨ (k0.toInt = 0 ∧ z0.toInt = 9223372036854775807)) (q1 : (k1.toInt = 1 ∧ z1.toInt = c1.toInt) ∨ (k1.toInt = 0 ∧ z1.toInt = 9223372036854775807)) (q2 : (k2.toInt = 1 ∧ z2.toInt = c2.toInt) ∨ (k2.toInt = 0 ∧ z2.toInt = 9223372036854775807)) (q3 : (k3.toInt = 1 ∧ z3.toInt = c3.toInt) ∨ (k3.toInt = 0 ∧ z3.toInt = 9223372036854775807))
    (hD : D.toInt = c0.toInt + c3.toInt) (hA : A.toInt = c1.toInt + c2.toInt) (d5 : V0.toInt = -(U1.toInt + U2.toInt + V1.toInt + V2.toInt))
    (d6 : (z0.toInt ≠ 9223372036854775807 ∧ z3.toInt ≠ 9223372036854775807 ∧ z0.toInt = U1.toInt + V1.toInt ∧ z3.toInt = U2.toInt + V2.toInt) ∨ (z1.toInt ≠ 9223372036854775807 ∧ z2.toInt ≠ 9223372036854775807 ∧ z1.toInt = U1.toInt + V2.toInt ∧ z2.toInt = U2.toInt + V1.toInt)) (hw : w.toInt = -V0.toInt)
    (qg : (g.toInt = 1 ∧ k0.toInt = 1 ∧ k3.toInt = 1) ∨ (g.toInt = 0 ∧ (k0.toInt = 0 ∨ k3.toInt = 0))) (qh : (h.toInt = 1 ∧ k1.toInt = 1 ∧ k2.toInt = 1) ∨ (h.toInt = 0 ∧ (k1.toInt = 0 ∨ k2.toInt = 0)))
    (s0 : (k0.toInt = 1 ∧ r0.toInt = c0.toInt - U1.toInt - V1.toInt) ∨ (k0.toInt = 0 ∧ r0.toInt = 0)) (s1 : (k1.toInt = 1 ∧ r1.toInt = c1.toInt - U1.toInt - V2.toInt) ∨ (k1.toInt = 0 ∧ r1.toInt = 0)) (s2 : (k2.toInt = 1 ∧ r2.toInt = c2.toInt - U2.toInt - V1.toInt) ∨ (k2.toInt = 0 ∧ r2.toInt = 0)) (s3 : (k3.toInt = 1 ∧ r3.toInt = c3.toInt - U2.toInt - V2.toInt) ∨ (k3.toInt = 0 ∧ r3.toInt = 0))
    (td' : td.toInt = 1 ∨ (td.toInt = 0 ∧ (g.toInt = 0 ∨ r0.toInt ≠ 0 ∨ r3.toInt ≠ 0 ∨ D.toInt ≠ w.toInt))) (ta' : ta.toInt = 1 ∨ (ta.toInt = 0 ∧ (h.toInt = 0 ∨ r1.toInt ≠ 0 ∨ r2.toInt ≠ 0 ∨ A.toInt ≠ w.toInt))) (e1 : td.toInt = 0) (e2 : ta.toInt = 0) : False := by
  have x1 := (td'.resolve_left (by omega)).2
  have x2 := (ta'.resolve_left (by omega)).2
  rcases d6 with d6 | d6
  · have y0 := q0.resolve_right (by omega); have y3 := q3.resolve_right (by omega)
    have yg := qg.resolve_right (by omega)
    have z0' := s0.resolve_right (by omega); have z3' := s3.resolve_right (by omega)
    rcases x1 with x1 | x1 | x1 | x1 <;> omega
  · have y1 := q1.resolve_right (by omega); have y2 := q2.resolve_right (by omega)
    have yh := qh.resolve_right (by omega)
    have z1' := s1.resolve_right (by omega); have z2' := s2.resolve_right (by omega)
    rcases x2 with x2 | x2 | x2 | x2 <;> omega
theorem own_l6 {k : Int32} {c U V rc : Int64} (r : (k.toInt = 1 ∧ rc.toInt = c.toInt - U.toInt - V.toInt) ∨ (k.toInt = 0 ∧ rc.toInt = 0)) (h : ¬ k.toInt = (0 : Int32).toInt) (hc : 0 ≤ c.toInt ∧ c.toInt < 1152921504606846976) (hU : OwnBd U) (hV : OwnBd V) : rc = c - U - V := by
  have h1 := r.resolve_right fun x => h x.1
  apply Int64.toInt_inj.mp
  rw [own_sub2 hc hU hV]; exact h1.2
theorem own_bit (x : Int32) : (x &&& (1 : Int32)) = 0 ∨ (x &&& (1 : Int32)) = 1 := by
  have k1 := c_mask x (1 : Int32) 1 (by decide) (by decide)
  have h : (x &&& (1 : Int32)).toInt = 0 ∨ (x &&& (1 : Int32)).toInt = 1 := by omega
  rcases h with h | h
  · exact Or.inl (Int32.toInt_inj.mp h)
  · exact Or.inr (Int32.toInt_inj.mp h)
theorem own_ltt {h : Heap} {x b : Addr} (hx : x < h.size) (g : b = h.size) : x < b := by rw [g]; exact hx
section OwnJ
variable {p : Program} {l : Launch} {e : Env} {R : Room} {s : State} {m : MethodId} {args : Array Value} {below : List Frame} {meth : Method} {c : Code} {T : State} {locs : List Loc} {cells slots : Nat}
theorem own_nil (X : Stand p l e R s m args below meth c T (locs ++ []) (cells + 0) (slots + 0)) : Stand p l e R s m args below meth c T locs cells slots := by simpa using X
theorem own_joinT {Fz : Outcome → State → Prop} {t : State} {h : Heap} {α : Type} (X : Stand p l e R s m args below meth c T locs cells slots) (e0 : T.heap = h) (Rel : α → Prop) (F : α → JFrame)
    (A : (∀ (T' : State) (z : α), Stand p l e R s m args below meth c T' locs cells slots → T'.heap = h → Rel z → Ends p.tables e below Fz (T'.setTop (F z))) → Ends p.tables e below Fz t)
    (J : ∀ (T' : State) (z : α), Stand p l e R s m args below meth c T' locs cells slots → T'.heap = h → Rel z → Ends p.tables e below Fz (T'.setTop (F z))) : Ends p.tables e below Fz t := A J
end OwnJ

theorem tw_0 : (Jvm.Cond.constantLong "com/example/weftwork/weftwork/algorithm/AssignmentReducedCostPinLaw" (7 : Nat) (1152921504606846975 : Int64)) ∈ tables_1 := List.mem_of_getElem? (i := 0) rfl
theorem tw_1 : (Jvm.Cond.classLink "com/example/weftwork/weftwork/algorithm/AssignmentReducedCostPinLaw" (9 : Nat) "com/example/weftwork/weftwork/algorithm/Assignment") ∈ tables_1 := List.mem_of_getElem? (i := 1) rfl
theorem tw_2 : (Jvm.Cond.instantiable "com/example/weftwork/weftwork/algorithm/Assignment" (7 : Nat)) ∈ tables_1 := List.mem_of_getElem? (i := 2) rfl
theorem tw_3 : (Jvm.Cond.initialized "com/example/weftwork/weftwork/algorithm/Assignment") ∈ tables_1 := List.mem_of_getElem? (i := 3) rfl
theorem tw_4 : (Jvm.Cond.methodLink "com/example/weftwork/weftwork/algorithm/AssignmentReducedCostPinLaw" (11 : Nat) ({ cls := "com/example/weftwork/weftwork/algorithm/Assignment", name := "<init>", desc := "(II)V" } : Jvm.MethodName)) ∈ tables_1 := List.mem_of_getElem? (i := 4) rfl
theorem tw_5 : (Jvm.Cond.instanceMethod ({ cls := "com/example/weftwork/weftwork/algorithm/Assignment", name := "<init>", desc := "(II)V" } : Jvm.MethodName)) ∈ tables_1 := List.mem_of_getElem? (i := 5) rfl
theorem tw_6 : (Jvm.Cond.code ({ cls := "com/example/weftwork/weftwork/algorithm/Assignment", name := "<init>", desc := "(II)V" } : Jvm.MethodName) prog_3_method_1_code (3 : Nat) (Option.none : Option Jvm.ClassFile.FieldType)) ∈ tables_1 := List.mem_of_getElem? (i := 6) rfl
theorem tw_7 : (Jvm.Cond.methodLink "com/example/weftwork/weftwork/algorithm/Assignment" (3 : Nat) ({ cls := "java/lang/Object", name := "<init>", desc := "()V" } : Jvm.MethodName)) ∈ tables_1 := List.mem_of_getElem? (i := 7) rfl
theorem tw_8 : (Jvm.Cond.instanceMethod ({ cls := "java/lang/Object", name := "<init>", desc := "()V" } : Jvm.MethodName)) ∈ tables_1 := List.mem_of_getElem? (i := 8) rfl
theorem tw_9 : (Jvm.Cond.code ({ cls := "java/lang/Object", name := "<init>", desc := "()V" } : Jvm.MethodName) object_method_1_code (1 : Nat) (Option.none : Option Jvm.ClassFile.FieldType)) ∈ tables_1 := List.mem_of_getElem? (i := 9) rfl
theorem tw_10 : (Jvm.Cond.classLink "com/example/weftwork/weftwork/algorithm/Assignment" (9 : Nat) "[[J") ∈ tables_1 := List.mem_of_getElem? (i := 10) rfl
theorem tw_11 : (Jvm.Cond.arrayOver (Jvm.ClassFile.FieldType.array Jvm.ClassFile.FieldType.long)) ∈ tables_1 := List.mem_of_getElem? (i := 11) rfl
theorem tw_12 : (Jvm.Cond.arrayClass Jvm.ClassFile.FieldType.long) ∈ tables_1 := List.mem_of_getElem? (i := 12) rfl
theorem tw_13 : (Jvm.Cond.fieldLink "com/example/weftwork/weftwork/algorithm/Assignment" (11 : Nat) "com/example/weftwork/weftwork/algorithm/Assignment" "costs" "[[J") ∈ tables_1 := List.mem_of_getElem? (i := 13) rfl
theorem tw_14 : (Jvm.Cond.laysFinal "com/example/weftwork/weftwork/algorithm/Assignment" "com/example/weftwork/weftwork/algorithm/Assignment" "costs" "[[J") ∈ tables_1 := List.mem_of_getElem? (i := 14) rfl
theorem tw_15 : (Jvm.Cond.fieldLink "com/example/weftwork/weftwork/algorithm/Assignment" (16 : Nat) "com/example/weftwork/weftwork/algorithm/Assignment" "rowPotential" "[J") ∈ tables_1 := List.mem_of_getElem? (i := 15) rfl
theorem tw_16 : (Jvm.Cond.laysFinal "com/example/weftwork/weftwork/algorithm/Assignment" "com/example/weftwork/weftwork/algorithm/Assignment" "rowPotential" "[J") ∈ tables_1 := List.mem_of_getElem? (i := 16) rfl
theorem tw_17 : (Jvm.Cond.fieldLink "com/example/weftwork/weftwork/algorithm/Assignment" (20 : Nat) "com/example/weftwork/weftwork/algorithm/Assignment" "columnPotential" "[J") ∈ tables_1 := List.mem_of_getElem? (i := 17) rfl
theorem tw_18 : (Jvm.Cond.laysFinal "com/example/weftwork/weftwork/algorithm/Assignment" "com/example/weftwork/weftwork/algorithm/Assignment" "columnPotential" "[J") ∈ tables_1 := List.mem_of_getElem? (i := 18) rfl
theorem tw_19 : (Jvm.Cond.arrayClass Jvm.ClassFile.FieldType.int) ∈ tables_1 := List.mem_of_getElem? (i := 19) rfl
theorem tw_20 : (Jvm.Cond.fieldLink "com/example/weftwork/weftwork/algorithm/Assignment" (23 : Nat) "com/example/weftwork/weftwork/algorithm/Assignment" "holder" "[I") ∈ tables_1 := List.mem_of_getElem? (i := 20) rfl
theorem tw_21 : (Jvm.Cond.laysFinal "com/example/weftwork/weftwork/algorithm/Assignment" "com/example/weftwork/weftwork/algorithm/Assignment" "holder" "[I") ∈ tables_1 := List.mem_of_getElem? (i := 21) rfl
theorem tw_22 : (Jvm.Cond.fieldLink "com/example/weftwork/weftwork/algorithm/Assignment" (27 : Nat) "com/example/weftwork/weftwork/algorithm/Assignment" "previous" "[I") ∈ tables_1 := List.mem_of_getElem? (i := 22) rfl
theorem tw_23 : (Jvm.Cond.laysFinal "com/example/weftwork/weftwork/algorithm/Assignment" "com/example/weftwork/weftwork/algorithm/Assignment" "previous" "[I") ∈ tables_1 := List.mem_of_getElem? (i := 23) rfl
theorem tw_24 : (Jvm.Cond.fieldLink "com/example/weftwork/weftwork/algorithm/Assignment" (30 : Nat) "com/example/weftwork/weftwork/algorithm/Assignment" "reach" "[J") ∈ tables_1 := List.mem_of_getElem? (i := 24) rfl
theorem tw_25 : (Jvm.Cond.laysFinal "com/example/weftwork/weftwork/algorithm/Assignment" "com/example/weftwork/weftwork/algorithm/Assignment" "reach" "[J") ∈ tables_1 := List.mem_of_getElem? (i := 25) rfl
theorem tw_26 : (Jvm.Cond.arrayClass Jvm.ClassFile.FieldType.boolean) ∈ tables_1 := List.mem_of_getElem? (i := 26) rfl
theorem tw_27 : (Jvm.Cond.fieldLink "com/example/weftwork/weftwork/algorithm/Assignment" (33 : Nat) "com/example/weftwork/weftwork/algorithm/Assignment" "done" "[Z") ∈ tables_1 := List.mem_of_getElem? (i := 27) rfl
theorem tw_28 : (Jvm.Cond.laysFinal "com/example/weftwork/weftwork/algorithm/Assignment" "com/example/weftwork/weftwork/algorithm/Assignment" "done" "[Z") ∈ tables_1 := List.mem_of_getElem? (i := 28) rfl
theorem tw_29 : (Jvm.Cond.methodLink "com/example/weftwork/weftwork/algorithm/AssignmentReducedCostPinLaw" (14 : Nat) ({ cls := "com/example/weftwork/weftwork/algorithm/Assignment", name := "row", desc := "(I)[J" } : Jvm.MethodName)) ∈ tables_1 := List.mem_of_getElem? (i := 29) rfl
theorem tw_30 : (Jvm.Cond.declares ({ cls := "com/example/weftwork/weftwork/algorithm/Assignment", name := "row", desc := "(I)[J" } : Jvm.MethodName)) ∈ tables_1 := List.mem_of_getElem? (i := 30) rfl
theorem tw_31 : (Jvm.Cond.instanceMethod ({ cls := "com/example/weftwork/weftwork/algorithm/Assignment", name := "row", desc := "(I)[J" } : Jvm.MethodName)) ∈ tables_1 := List.mem_of_getElem? (i := 31) rfl
theorem tw_32 : (Jvm.Cond.selects "com/example/weftwork/weftwork/algorithm/Assignment" ({ cls := "com/example/weftwork/weftwork/algorithm/Assignment", name := "row", desc := "(I)[J" } : Jvm.MethodName) ({ cls := "com/example/weftwork/weftwork/algorithm/Assignment", name := "row", desc := "(I)[J" } : Jvm.MethodName)) ∈ tables_1 := List.mem_of_getElem? (i := 32) rfl
theorem tw_33 : (Jvm.Cond.code ({ cls := "com/example/weftwork/weftwork/algorithm/Assignment", name := "row", desc := "(I)[J" } : Jvm.MethodName) prog_3_method_2_code (2 : Nat) (Option.some (Jvm.ClassFile.FieldType.array Jvm.ClassFile.FieldType.long))) ∈ tables_1 := List.mem_of_getElem? (i := 33) rfl
theorem tw_34 : (Jvm.Cond.methodLink "com/example/weftwork/weftwork/algorithm/AssignmentReducedCostPinLaw" (20 : Nat) ({ cls := "com/example/weftwork/weftwork/algorithm/Assignment", name := "solve", desc := "(II)J" } : Jvm.MethodName)) ∈ tables_1 := List.mem_of_getElem? (i := 34) rfl
theorem tw_35 : (Jvm.Cond.declares ({ cls := "com/example/weftwork/weftwork/algorithm/Assignment", name := "solve", desc := "(II)J" } : Jvm.MethodName)) ∈ tables_1 := List.mem_of_getElem? (i := 35) rfl
theorem tw_36 : (Jvm.Cond.instanceMethod ({ cls := "com/example/weftwork/weftwork/algorithm/Assignment", name := "solve", desc := "(II)J" } : Jvm.MethodName)) ∈ tables_1 := List.mem_of_getElem? (i := 36) rfl
theorem tw_37 : (Jvm.Cond.selects "com/example/weftwork/weftwork/algorithm/Assignment" ({ cls := "com/example/weftwork/weftwork/algorithm/Assignment", name := "solve", desc := "(II)J" } : Jvm.MethodName) ({ cls := "com/example/weftwork/weftwork/algorithm/Assignment", name := "solve", desc := "(II)J" } : Jvm.MethodName)) ∈ tables_1 := List.mem_of_getElem? (i := 37) rfl
theorem tw_38 : (Jvm.Cond.code ({ cls := "com/example/weftwork/weftwork/algorithm/Assignment", name := "solve", desc := "(II)J" } : Jvm.MethodName) prog_3_method_3_code (4 : Nat) (Option.some Jvm.ClassFile.FieldType.long)) ∈ tables_1 := List.mem_of_getElem? (i := 38) rfl
theorem tw_39 : (Jvm.Cond.methodLink "com/example/weftwork/weftwork/algorithm/Assignment" (39 : Nat) ({ cls := "java/util/Arrays", name := "fill", desc := "([JIIJ)V" } : Jvm.MethodName)) ∈ tables_1 := List.mem_of_getElem? (i := 39) rfl
theorem tw_40 : (Jvm.Cond.static ({ cls := "java/util/Arrays", name := "fill", desc := "([JIIJ)V" } : Jvm.MethodName)) ∈ tables_1 := List.mem_of_getElem? (i := 40) rfl
theorem tw_41 : (Jvm.Cond.initialized "java/util/Arrays") ∈ tables_1 := List.mem_of_getElem? (i := 41) rfl
theorem tw_42 : (Jvm.Cond.code ({ cls := "java/util/Arrays", name := "fill", desc := "([JIIJ)V" } : Jvm.MethodName) jdk_65_method_102_code (6 : Nat) (Option.none : Option Jvm.ClassFile.FieldType)) ∈ tables_1 := List.mem_of_getElem? (i := 42) rfl
theorem tw_43 : (Jvm.Cond.methodLink "java/util/Arrays" (13 : Nat) ({ cls := "java/util/Arrays", name := "rangeCheck", desc := "(III)V" } : Jvm.MethodName)) ∈ tables_1 := List.mem_of_getElem? (i := 43) rfl
theorem tw_44 : (Jvm.Cond.static ({ cls := "java/util/Arrays", name := "rangeCheck", desc := "(III)V" } : Jvm.MethodName)) ∈ tables_1 := List.mem_of_getElem? (i := 44) rfl
theorem tw_45 : (Jvm.Cond.code ({ cls := "java/util/Arrays", name := "rangeCheck", desc := "(III)V" } : Jvm.MethodName) jdk_65_method_30_code (3 : Nat) (Option.none : Option Jvm.ClassFile.FieldType)) ∈ tables_1 := List.mem_of_getElem? (i := 45) rfl
theorem tw_46 : (Jvm.Cond.methodLink "com/example/weftwork/weftwork/algorithm/Assignment" (45 : Nat) ({ cls := "java/util/Arrays", name := "fill", desc := "([IIII)V" } : Jvm.MethodName)) ∈ tables_1 := List.mem_of_getElem? (i := 46) rfl
theorem tw_47 : (Jvm.Cond.static ({ cls := "java/util/Arrays", name := "fill", desc := "([IIII)V" } : Jvm.MethodName)) ∈ tables_1 := List.mem_of_getElem? (i := 47) rfl
theorem tw_48 : (Jvm.Cond.code ({ cls := "java/util/Arrays", name := "fill", desc := "([IIII)V" } : Jvm.MethodName) jdk_65_method_104_code (5 : Nat) (Option.none : Option Jvm.ClassFile.FieldType)) ∈ tables_1 := List.mem_of_getElem? (i := 48) rfl
theorem tw_49 : (Jvm.Cond.methodLink "com/example/weftwork/weftwork/algorithm/Assignment" (48 : Nat) ({ cls := "com/example/weftwork/weftwork/algorithm/Assignment", name := "augment", desc := "(II)Z" } : Jvm.MethodName)) ∈ tables_1 := List.mem_of_getElem? (i := 49) rfl
theorem tw_50 : (Jvm.Cond.instanceMethod ({ cls := "com/example/weftwork/weftwork/algorithm/Assignment", name := "augment", desc := "(II)Z" } : Jvm.MethodName)) ∈ tables_1 := List.mem_of_getElem? (i := 50) rfl
theorem tw_51 : (Jvm.Cond.privateMethod ({ cls := "com/example/weftwork/weftwork/algorithm/Assignment", name := "augment", desc := "(II)Z" } : Jvm.MethodName)) ∈ tables_1 := List.mem_of_getElem? (i := 51) rfl
theorem tw_52 : (Jvm.Cond.code ({ cls := "com/example/weftwork/weftwork/algorithm/Assignment", name := "augment", desc := "(II)Z" } : Jvm.MethodName) prog_3_method_7_code (14 : Nat) (Option.some Jvm.ClassFile.FieldType.boolean)) ∈ tables_1 := List.mem_of_getElem? (i := 52) rfl
theorem tw_53 : (Jvm.Cond.constantLong "com/example/weftwork/weftwork/algorithm/Assignment" (37 : Nat) (9223372036854775807 : Int64)) ∈ tables_1 := List.mem_of_getElem? (i := 53) rfl
theorem tw_54 : (Jvm.Cond.methodLink "com/example/weftwork/weftwork/algorithm/Assignment" (52 : Nat) ({ cls := "java/util/Arrays", name := "fill", desc := "([ZIIZ)V" } : Jvm.MethodName)) ∈ tables_1 := List.mem_of_getElem? (i := 54) rfl
theorem tw_55 : (Jvm.Cond.static ({ cls := "java/util/Arrays", name := "fill", desc := "([ZIIZ)V" } : Jvm.MethodName)) ∈ tables_1 := List.mem_of_getElem? (i := 55) rfl
theorem tw_56 : (Jvm.Cond.code ({ cls := "java/util/Arrays", name := "fill", desc := "([ZIIZ)V" } : Jvm.MethodName) jdk_65_method_112_code (5 : Nat) (Option.none : Option Jvm.ClassFile.FieldType)) ∈ tables_1 := List.mem_of_getElem? (i := 56) rfl
theorem tw_57 : (Jvm.Cond.methodLink "com/example/weftwork/weftwork/algorithm/AssignmentReducedCostPinLaw" (24 : Nat) ({ cls := "java/lang/Math", name := "min", desc := "(JJ)J" } : Jvm.MethodName)) ∈ tables_1 := List.mem_of_getElem? (i := 57) rfl
theorem tw_58 : (Jvm.Cond.static ({ cls := "java/lang/Math", name := "min", desc := "(JJ)J" } : Jvm.MethodName)) ∈ tables_1 := List.mem_of_getElem? (i := 58) rfl
theorem tw_59 : (Jvm.Cond.initialized "java/lang/Math") ∈ tables_1 := List.mem_of_getElem? (i := 59) rfl
theorem tw_60 : (Jvm.Cond.code ({ cls := "java/lang/Math", name := "min", desc := "(JJ)J" } : Jvm.MethodName) jdk_29_method_70_code (4 : Nat) (Option.some Jvm.ClassFile.FieldType.long)) ∈ tables_1 := List.mem_of_getElem? (i := 60) rfl
theorem tw_61 : (Jvm.Cond.methodLink "com/example/weftwork/weftwork/algorithm/AssignmentReducedCostPinLaw" (30 : Nat) ({ cls := "com/example/weftwork/weftwork/algorithm/Assignment", name := "reducedCost", desc := "(II)J" } : Jvm.MethodName)) ∈ tables_1 := List.mem_of_getElem? (i := 61) rfl
theorem tw_62 : (Jvm.Cond.declares ({ cls := "com/example/weftwork/weftwork/algorithm/Assignment", name := "reducedCost", desc := "(II)J" } : Jvm.MethodName)) ∈ tables_1 := List.mem_of_getElem? (i := 62) rfl
theorem tw_63 : (Jvm.Cond.instanceMethod ({ cls := "com/example/weftwork/weftwork/algorithm/Assignment", name := "reducedCost", desc := "(II)J" } : Jvm.MethodName)) ∈ tables_1 := List.mem_of_getElem? (i := 63) rfl
theorem tw_64 : (Jvm.Cond.selects "com/example/weftwork/weftwork/algorithm/Assignment" ({ cls := "com/example/weftwork/weftwork/algorithm/Assignment", name := "reducedCost", desc := "(II)J" } : Jvm.MethodName) ({ cls := "com/example/weftwork/weftwork/algorithm/Assignment", name := "reducedCost", desc := "(II)J" } : Jvm.MethodName)) ∈ tables_1 := List.mem_of_getElem? (i := 64) rfl
theorem tw_65 : (Jvm.Cond.code ({ cls := "com/example/weftwork/weftwork/algorithm/Assignment", name := "reducedCost", desc := "(II)J" } : Jvm.MethodName) prog_3_method_4_code (3 : Nat) (Option.some Jvm.ClassFile.FieldType.long)) ∈ tables_1 := List.mem_of_getElem? (i := 65) rfl
theorem tw_66 : (Jvm.Cond.methodLink "com/example/weftwork/weftwork/algorithm/AssignmentReducedCostPinLaw" (33 : Nat) ({ cls := "com/example/weftwork/weftwork/algorithm/Assignment", name := "rowCharge", desc := "(I)J" } : Jvm.MethodName)) ∈ tables_1 := List.mem_of_getElem? (i := 66) rfl
theorem tw_67 : (Jvm.Cond.declares ({ cls := "com/example/weftwork/weftwork/algorithm/Assignment", name := "rowCharge", desc := "(I)J" } : Jvm.MethodName)) ∈ tables_1 := List.mem_of_getElem? (i := 67) rfl
theorem tw_68 : (Jvm.Cond.instanceMethod ({ cls := "com/example/weftwork/weftwork/algorithm/Assignment", name := "rowCharge", desc := "(I)J" } : Jvm.MethodName)) ∈ tables_1 := List.mem_of_getElem? (i := 68) rfl
theorem tw_69 : (Jvm.Cond.selects "com/example/weftwork/weftwork/algorithm/Assignment" ({ cls := "com/example/weftwork/weftwork/algorithm/Assignment", name := "rowCharge", desc := "(I)J" } : Jvm.MethodName) ({ cls := "com/example/weftwork/weftwork/algorithm/Assignment", name := "rowCharge", desc := "(I)J" } : Jvm.MethodName)) ∈ tables_1 := List.mem_of_getElem? (i := 69) rfl
theorem tw_70 : (Jvm.Cond.code ({ cls := "com/example/weftwork/weftwork/algorithm/Assignment", name := "rowCharge", desc := "(I)J" } : Jvm.MethodName) prog_3_method_5_code (2 : Nat) (Option.some Jvm.ClassFile.FieldType.long)) ∈ tables_1 := List.mem_of_getElem? (i := 70) rfl
theorem tw_71 : (Jvm.Cond.methodLink "com/example/weftwork/weftwork/algorithm/AssignmentReducedCostPinLaw" (37 : Nat) ({ cls := "com/example/weftwork/weftwork/algorithm/Assignment", name := "columnCharge", desc := "(I)J" } : Jvm.MethodName)) ∈ tables_1 := List.mem_of_getElem? (i := 71) rfl
theorem tw_72 : (Jvm.Cond.declares ({ cls := "com/example/weftwork/weftwork/algorithm/Assignment", name := "columnCharge", desc := "(I)J" } : Jvm.MethodName)) ∈ tables_1 := List.mem_of_getElem? (i := 72) rfl
theorem tw_73 : (Jvm.Cond.instanceMethod ({ cls := "com/example/weftwork/weftwork/algorithm/Assignment", name := "columnCharge", desc := "(I)J" } : Jvm.MethodName)) ∈ tables_1 := List.mem_of_getElem? (i := 73) rfl
theorem tw_74 : (Jvm.Cond.selects "com/example/weftwork/weftwork/algorithm/Assignment" ({ cls := "com/example/weftwork/weftwork/algorithm/Assignment", name := "columnCharge", desc := "(I)J" } : Jvm.MethodName) ({ cls := "com/example/weftwork/weftwork/algorithm/Assignment", name := "columnCharge", desc := "(I)J" } : Jvm.MethodName)) ∈ tables_1 := List.mem_of_getElem? (i := 74) rfl
theorem tw_75 : (Jvm.Cond.code ({ cls := "com/example/weftwork/weftwork/algorithm/Assignment", name := "columnCharge", desc := "(I)J" } : Jvm.MethodName) prog_3_method_6_code (2 : Nat) (Option.some Jvm.ClassFile.FieldType.long)) ∈ tables_1 := List.mem_of_getElem? (i := 75) rfl
theorem tw_76 : (Jvm.Cond.constantLong "com/example/weftwork/weftwork/algorithm/AssignmentReducedCostPinLaw" (18 : Nat) (9223372036854775807 : Int64)) ∈ tables_1 := List.mem_of_getElem? (i := 76) rfl
theorem d1_0 : decode prog_3_method_1_code 0 = .ok (.aload_n 0, 1) := by decide +kernel
theorem d1_1 : decode prog_3_method_1_code 1 = .ok (.invokespecial 3, 3) := by decide +kernel
theorem d1_4 : decode prog_3_method_1_code 4 = .ok (.aload_n 0, 1) := by decide +kernel
theorem d1_5 : decode prog_3_method_1_code 5 = .ok (.iload_n 1, 1) := by decide +kernel
theorem d1_6 : decode prog_3_method_1_code 6 = .ok (.iload_n 2, 1) := by decide +kernel
theorem d1_7 : decode prog_3_method_1_code 7 = .ok (.multianewarray 9 2, 4) := by decide +kernel
theorem d1_11 : decode prog_3_method_1_code 11 = .ok (.putfield 11, 3) := by decide +kernel
theorem d1_14 : decode prog_3_method_1_code 14 = .ok (.aload_n 0, 1) := by decide +kernel
theorem d1_15 : decode prog_3_method_1_code 15 = .ok (.iload_n 1, 1) := by decide +kernel
theorem d1_16 : decode prog_3_method_1_code 16 = .ok (.iconst 1, 1) := by decide +kernel
theorem d1_17 : decode prog_3_method_1_code 17 = .ok (.iadd, 1) := by decide +kernel
theorem d1_18 : decode prog_3_method_1_code 18 = .ok (.newarray .long, 2) := by decide +kernel
theorem d1_20 : decode prog_3_method_1_code 20 = .ok (.putfield 16, 3) := by decide +kernel
theorem d1_23 : decode prog_3_method_1_code 23 = .ok (.aload_n 0, 1) := by decide +kernel
theorem d1_24 : decode prog_3_method_1_code 24 = .ok (.iload_n 2, 1) := by decide +kernel
theorem d1_25 : decode prog_3_method_1_code 25 = .ok (.iconst 1, 1) := by decide +kernel
theorem d1_26 : decode prog_3_method_1_code 26 = .ok (.iadd, 1) := by decide +kernel
theorem d1_27 : decode prog_3_method_1_code 27 = .ok (.newarray .long, 2) := by decide +kernel
theorem d1_29 : decode prog_3_method_1_code 29 = .ok (.putfield 20, 3) := by decide +kernel
theorem d1_32 : decode prog_3_method_1_code 32 = .ok (.aload_n 0, 1) := by decide +kernel
theorem d1_33 : decode prog_3_method_1_code 33 = .ok (.iload_n 2, 1) := by decide +kernel
theorem d1_34 : decode prog_3_method_1_code 34 = .ok (.iconst 1, 1) := by decide +kernel
theorem d1_35 : decode prog_3_method_1_code 35 = .ok (.iadd, 1) := by decide +kernel
theorem d1_36 : decode prog_3_method_1_code 36 = .ok (.newarray .int, 2) := by decide +kernel
theorem d1_38 : decode prog_3_method_1_code 38 = .ok (.putfield 23, 3) := by decide +kernel
theorem d1_41 : decode prog_3_method_1_code 41 = .ok (.aload_n 0, 1) := by decide +kernel
theorem d1_42 : decode prog_3_method_1_code 42 = .ok (.iload_n 2, 1) := by decide +kernel
theorem d1_43 : decode prog_3_method_1_code 43 = .ok (.iconst 1, 1) := by decide +kernel
theorem d1_44 : decode prog_3_method_1_code 44 = .ok (.iadd, 1) := by decide +kernel
theorem d1_45 : decode prog_3_method_1_code 45 = .ok (.newarray .int, 2) := by decide +kernel
theorem d1_47 : decode prog_3_method_1_code 47 = .ok (.putfield 27, 3) := by decide +kernel
theorem d1_50 : decode prog_3_method_1_code 50 = .ok (.aload_n 0, 1) := by decide +kernel
theorem d1_51 : decode prog_3_method_1_code 51 = .ok (.iload_n 2, 1) := by decide +kernel
theorem d1_52 : decode prog_3_method_1_code 52 = .ok (.iconst 1, 1) := by decide +kernel
theorem d1_53 : decode prog_3_method_1_code 53 = .ok (.iadd, 1) := by decide +kernel
theorem d1_54 : decode prog_3_method_1_code 54 = .ok (.newarray .long, 2) := by decide +kernel
theorem d1_56 : decode prog_3_method_1_code 56 = .ok (.putfield 30, 3) := by decide +kernel
theorem d1_59 : decode prog_3_method_1_code 59 = .ok (.aload_n 0, 1) := by decide +kernel
theorem d1_60 : decode prog_3_method_1_code 60 = .ok (.iload_n 2, 1) := by decide +kernel
theorem d1_61 : decode prog_3_method_1_code 61 = .ok (.iconst 1, 1) := by decide +kernel
theorem d1_62 : decode prog_3_method_1_code 62 = .ok (.iadd, 1) := by decide +kernel
theorem d1_63 : decode prog_3_method_1_code 63 = .ok (.newarray .boolean, 2) := by decide +kernel
theorem d1_65 : decode prog_3_method_1_code 65 = .ok (.putfield 33, 3) := by decide +kernel
theorem d1_68 : decode prog_3_method_1_code 68 = .ok (.return_, 1) := by decide +kernel
theorem d3_0 : decode prog_3_method_2_code 0 = .ok (.aload_n 0, 1) := by decide +kernel
theorem d3_1 : decode prog_3_method_2_code 1 = .ok (.getfield 11, 3) := by decide +kernel
theorem d3_4 : decode prog_3_method_2_code 4 = .ok (.iload_n 1, 1) := by decide +kernel
theorem d3_5 : decode prog_3_method_2_code 5 = .ok (.aaload, 1) := by decide +kernel
theorem d3_6 : decode prog_3_method_2_code 6 = .ok (.areturn, 1) := by decide +kernel
theorem d4_0 : decode prog_3_method_3_code 0 = .ok (.iload_n 1, 1) := by decide +kernel
theorem d4_1 : decode prog_3_method_3_code 1 = .ok (.iload_n 2, 1) := by decide +kernel
theorem d4_2 : decode prog_3_method_3_code 2 = .ok (.if_icmp .le 7, 3) := by decide +kernel
theorem d4_9 : decode prog_3_method_3_code 9 = .ok (.aload_n 0, 1) := by decide +kernel
theorem d4_10 : decode prog_3_method_3_code 10 = .ok (.getfield 16, 3) := by decide +kernel
theorem d4_13 : decode prog_3_method_3_code 13 = .ok (.iconst 0, 1) := by decide +kernel
theorem d4_14 : decode prog_3_method_3_code 14 = .ok (.iload_n 1, 1) := by decide +kernel
theorem d4_15 : decode prog_3_method_3_code 15 = .ok (.iconst 1, 1) := by decide +kernel
theorem d4_16 : decode prog_3_method_3_code 16 = .ok (.iadd, 1) := by decide +kernel
theorem d4_17 : decode prog_3_method_3_code 17 = .ok (.lconst 0, 1) := by decide +kernel
theorem d4_18 : decode prog_3_method_3_code 18 = .ok (.invokestatic 39, 3) := by decide +kernel
theorem d4_21 : decode prog_3_method_3_code 21 = .ok (.aload_n 0, 1) := by decide +kernel
theorem d4_22 : decode prog_3_method_3_code 22 = .ok (.getfield 20, 3) := by decide +kernel
theorem d4_25 : decode prog_3_method_3_code 25 = .ok (.iconst 0, 1) := by decide +kernel
theorem d4_26 : decode prog_3_method_3_code 26 = .ok (.iload_n 2, 1) := by decide +kernel
theorem d4_27 : decode prog_3_method_3_code 27 = .ok (.iconst 1, 1) := by decide +kernel
theorem d4_28 : decode prog_3_method_3_code 28 = .ok (.iadd, 1) := by decide +kernel
theorem d4_29 : decode prog_3_method_3_code 29 = .ok (.lconst 0, 1) := by decide +kernel
theorem d4_30 : decode prog_3_method_3_code 30 = .ok (.invokestatic 39, 3) := by decide +kernel
theorem d4_33 : decode prog_3_method_3_code 33 = .ok (.aload_n 0, 1) := by decide +kernel
theorem d4_34 : decode prog_3_method_3_code 34 = .ok (.getfield 23, 3) := by decide +kernel
theorem d4_37 : decode prog_3_method_3_code 37 = .ok (.iconst 0, 1) := by decide +kernel
theorem d4_38 : decode prog_3_method_3_code 38 = .ok (.iload_n 2, 1) := by decide +kernel
theorem d4_39 : decode prog_3_method_3_code 39 = .ok (.iconst 1, 1) := by decide +kernel
theorem d4_40 : decode prog_3_method_3_code 40 = .ok (.iadd, 1) := by decide +kernel
theorem d4_41 : decode prog_3_method_3_code 41 = .ok (.iconst 0, 1) := by decide +kernel
theorem d4_42 : decode prog_3_method_3_code 42 = .ok (.invokestatic 45, 3) := by decide +kernel
theorem d4_45 : decode prog_3_method_3_code 45 = .ok (.iconst 1, 1) := by decide +kernel
theorem d4_46 : decode prog_3_method_3_code 46 = .ok (.istore_n 3, 1) := by decide +kernel
theorem d4_47 : decode prog_3_method_3_code 47 = .ok (.iload_n 3, 1) := by decide +kernel
theorem d4_48 : decode prog_3_method_3_code 48 = .ok (.iload_n 1, 1) := by decide +kernel
theorem d4_49 : decode prog_3_method_3_code 49 = .ok (.if_icmp .gt 22, 3) := by decide +kernel
theorem d4_52 : decode prog_3_method_3_code 52 = .ok (.aload_n 0, 1) := by decide +kernel
theorem d4_53 : decode prog_3_method_3_code 53 = .ok (.iload_n 3, 1) := by decide +kernel
theorem d4_54 : decode prog_3_method_3_code 54 = .ok (.iload_n 2, 1) := by decide +kernel
theorem d4_55 : decode prog_3_method_3_code 55 = .ok (.invokevirtual 48, 3) := by decide +kernel
theorem d4_58 : decode prog_3_method_3_code 58 = .ok (.ifCond .ne 7, 3) := by decide +kernel
theorem d4_65 : decode prog_3_method_3_code 65 = .ok (.iinc 3 1, 3) := by decide +kernel
theorem d4_68 : decode prog_3_method_3_code 68 = .ok (.goto (-21), 3) := by decide +kernel
theorem d4_71 : decode prog_3_method_3_code 71 = .ok (.aload_n 0, 1) := by decide +kernel
theorem d4_72 : decode prog_3_method_3_code 72 = .ok (.getfield 20, 3) := by decide +kernel
theorem d4_75 : decode prog_3_method_3_code 75 = .ok (.iconst 0, 1) := by decide +kernel
theorem d4_76 : decode prog_3_method_3_code 76 = .ok (.laload, 1) := by decide +kernel
theorem d4_77 : decode prog_3_method_3_code 77 = .ok (.lneg, 1) := by decide +kernel
theorem d4_78 : decode prog_3_method_3_code 78 = .ok (.lreturn, 1) := by decide +kernel
theorem d5_0 : decode jdk_65_method_102_code 0 = .ok (.aload_n 0, 1) := by decide +kernel
theorem d5_1 : decode jdk_65_method_102_code 1 = .ok (.arraylength, 1) := by decide +kernel
theorem d5_2 : decode jdk_65_method_102_code 2 = .ok (.iload_n 1, 1) := by decide +kernel
theorem d5_3 : decode jdk_65_method_102_code 3 = .ok (.iload_n 2, 1) := by decide +kernel
theorem d5_4 : decode jdk_65_method_102_code 4 = .ok (.invokestatic 13, 3) := by decide +kernel
theorem d5_7 : decode jdk_65_method_102_code 7 = .ok (.iload_n 1, 1) := by decide +kernel
theorem d5_8 : decode jdk_65_method_102_code 8 = .ok (.istore 5, 2) := by decide +kernel
theorem d5_10 : decode jdk_65_method_102_code 10 = .ok (.iload 5, 2) := by decide +kernel
theorem d5_12 : decode jdk_65_method_102_code 12 = .ok (.iload_n 2, 1) := by decide +kernel
theorem d5_13 : decode jdk_65_method_102_code 13 = .ok (.if_icmp .ge 14, 3) := by decide +kernel
theorem d5_16 : decode jdk_65_method_102_code 16 = .ok (.aload_n 0, 1) := by decide +kernel
theorem d5_17 : decode jdk_65_method_102_code 17 = .ok (.iload 5, 2) := by decide +kernel
theorem d5_19 : decode jdk_65_method_102_code 19 = .ok (.lload_n 3, 1) := by decide +kernel
theorem d5_20 : decode jdk_65_method_102_code 20 = .ok (.lastore, 1) := by decide +kernel
theorem d5_21 : decode jdk_65_method_102_code 21 = .ok (.iinc 5 1, 3) := by decide +kernel
theorem d5_24 : decode jdk_65_method_102_code 24 = .ok (.goto (-14), 3) := by decide +kernel
theorem d5_27 : decode jdk_65_method_102_code 27 = .ok (.return_, 1) := by decide +kernel
theorem d6_0 : decode jdk_65_method_30_code 0 = .ok (.iload_n 1, 1) := by decide +kernel
theorem d6_1 : decode jdk_65_method_30_code 1 = .ok (.iload_n 2, 1) := by decide +kernel
theorem d6_2 : decode jdk_65_method_30_code 2 = .ok (.if_icmp .le 44, 3) := by decide +kernel
theorem d6_46 : decode jdk_65_method_30_code 46 = .ok (.iload_n 1, 1) := by decide +kernel
theorem d6_47 : decode jdk_65_method_30_code 47 = .ok (.ifCond .ge 12, 3) := by decide +kernel
theorem d6_59 : decode jdk_65_method_30_code 59 = .ok (.iload_n 2, 1) := by decide +kernel
theorem d6_60 : decode jdk_65_method_30_code 60 = .ok (.iload_n 0, 1) := by decide +kernel
theorem d6_61 : decode jdk_65_method_30_code 61 = .ok (.if_icmp .le 12, 3) := by decide +kernel
theorem d6_73 : decode jdk_65_method_30_code 73 = .ok (.return_, 1) := by decide +kernel
theorem d7_0 : decode jdk_65_method_104_code 0 = .ok (.aload_n 0, 1) := by decide +kernel
theorem d7_1 : decode jdk_65_method_104_code 1 = .ok (.arraylength, 1) := by decide +kernel
theorem d7_2 : decode jdk_65_method_104_code 2 = .ok (.iload_n 1, 1) := by decide +kernel
theorem d7_3 : decode jdk_65_method_104_code 3 = .ok (.iload_n 2, 1) := by decide +kernel
theorem d7_4 : decode jdk_65_method_104_code 4 = .ok (.invokestatic 13, 3) := by decide +kernel
theorem d7_7 : decode jdk_65_method_104_code 7 = .ok (.iload_n 1, 1) := by decide +kernel
theorem d7_8 : decode jdk_65_method_104_code 8 = .ok (.istore 4, 2) := by decide +kernel
theorem d7_10 : decode jdk_65_method_104_code 10 = .ok (.iload 4, 2) := by decide +kernel
theorem d7_12 : decode jdk_65_method_104_code 12 = .ok (.iload_n 2, 1) := by decide +kernel
theorem d7_13 : decode jdk_65_method_104_code 13 = .ok (.if_icmp .ge 14, 3) := by decide +kernel
theorem d7_16 : decode jdk_65_method_104_code 16 = .ok (.aload_n 0, 1) := by decide +kernel
theorem d7_17 : decode jdk_65_method_104_code 17 = .ok (.iload 4, 2) := by decide +kernel
theorem d7_19 : decode jdk_65_method_104_code 19 = .ok (.iload_n 3, 1) := by decide +kernel
theorem d7_20 : decode jdk_65_method_104_code 20 = .ok (.iastore, 1) := by decide +kernel
theorem d7_21 : decode jdk_65_method_104_code 21 = .ok (.iinc 4 1, 3) := by decide +kernel
theorem d7_24 : decode jdk_65_method_104_code 24 = .ok (.goto (-14), 3) := by decide +kernel
theorem d7_27 : decode jdk_65_method_104_code 27 = .ok (.return_, 1) := by decide +kernel
theorem d8_0 : decode prog_3_method_7_code 0 = .ok (.aload_n 0, 1) := by decide +kernel
theorem d8_1 : decode prog_3_method_7_code 1 = .ok (.getfield 23, 3) := by decide +kernel
theorem d8_4 : decode prog_3_method_7_code 4 = .ok (.iconst 0, 1) := by decide +kernel
theorem d8_5 : decode prog_3_method_7_code 5 = .ok (.iload_n 1, 1) := by decide +kernel
theorem d8_6 : decode prog_3_method_7_code 6 = .ok (.iastore, 1) := by decide +kernel
theorem d8_7 : decode prog_3_method_7_code 7 = .ok (.iconst 0, 1) := by decide +kernel
theorem d8_8 : decode prog_3_method_7_code 8 = .ok (.istore_n 3, 1) := by decide +kernel
theorem d8_9 : decode prog_3_method_7_code 9 = .ok (.aload_n 0, 1) := by decide +kernel
theorem d8_10 : decode prog_3_method_7_code 10 = .ok (.getfield 30, 3) := by decide +kernel
theorem d8_13 : decode prog_3_method_7_code 13 = .ok (.iconst 0, 1) := by decide +kernel
theorem d8_14 : decode prog_3_method_7_code 14 = .ok (.iload_n 2, 1) := by decide +kernel
theorem d8_15 : decode prog_3_method_7_code 15 = .ok (.iconst 1, 1) := by decide +kernel
theorem d8_16 : decode prog_3_method_7_code 16 = .ok (.iadd, 1) := by decide +kernel
theorem d8_17 : decode prog_3_method_7_code 17 = .ok (.ldc2_w 37, 3) := by decide +kernel
theorem d8_20 : decode prog_3_method_7_code 20 = .ok (.invokestatic 39, 3) := by decide +kernel
theorem d8_23 : decode prog_3_method_7_code 23 = .ok (.aload_n 0, 1) := by decide +kernel
theorem d8_24 : decode prog_3_method_7_code 24 = .ok (.getfield 33, 3) := by decide +kernel
theorem d8_27 : decode prog_3_method_7_code 27 = .ok (.iconst 0, 1) := by decide +kernel
theorem d8_28 : decode prog_3_method_7_code 28 = .ok (.iload_n 2, 1) := by decide +kernel
theorem d8_29 : decode prog_3_method_7_code 29 = .ok (.iconst 1, 1) := by decide +kernel
theorem d8_30 : decode prog_3_method_7_code 30 = .ok (.iadd, 1) := by decide +kernel
theorem d8_31 : decode prog_3_method_7_code 31 = .ok (.iconst 0, 1) := by decide +kernel
theorem d8_32 : decode prog_3_method_7_code 32 = .ok (.invokestatic 52, 3) := by decide +kernel
theorem d8_35 : decode prog_3_method_7_code 35 = .ok (.aload_n 0, 1) := by decide +kernel
theorem d8_36 : decode prog_3_method_7_code 36 = .ok (.getfield 33, 3) := by decide +kernel
theorem d8_39 : decode prog_3_method_7_code 39 = .ok (.iload_n 3, 1) := by decide +kernel
theorem d8_40 : decode prog_3_method_7_code 40 = .ok (.iconst 1, 1) := by decide +kernel
theorem d8_41 : decode prog_3_method_7_code 41 = .ok (.bastore, 1) := by decide +kernel
theorem d8_42 : decode prog_3_method_7_code 42 = .ok (.aload_n 0, 1) := by decide +kernel
theorem d8_43 : decode prog_3_method_7_code 43 = .ok (.getfield 23, 3) := by decide +kernel
theorem d8_46 : decode prog_3_method_7_code 46 = .ok (.iload_n 3, 1) := by decide +kernel
theorem d8_47 : decode prog_3_method_7_code 47 = .ok (.iaload, 1) := by decide +kernel
theorem d8_48 : decode prog_3_method_7_code 48 = .ok (.istore 4, 2) := by decide +kernel
theorem d8_50 : decode prog_3_method_7_code 50 = .ok (.aload_n 0, 1) := by decide +kernel
theorem d8_51 : decode prog_3_method_7_code 51 = .ok (.getfield 11, 3) := by decide +kernel
theorem d8_54 : decode prog_3_method_7_code 54 = .ok (.iload 4, 2) := by decide +kernel
theorem d8_56 : decode prog_3_method_7_code 56 = .ok (.iconst 1, 1) := by decide +kernel
theorem d8_57 : decode prog_3_method_7_code 57 = .ok (.isub, 1) := by decide +kernel
theorem d8_58 : decode prog_3_method_7_code 58 = .ok (.aaload, 1) := by decide +kernel
theorem d8_59 : decode prog_3_method_7_code 59 = .ok (.astore 5, 2) := by decide +kernel
theorem d8_61 : decode prog_3_method_7_code 61 = .ok (.ldc2_w 37, 3) := by decide +kernel
theorem d8_64 : decode prog_3_method_7_code 64 = .ok (.lstore 6, 2) := by decide +kernel
theorem d8_66 : decode prog_3_method_7_code 66 = .ok (.iconst (-1), 1) := by decide +kernel
theorem d8_67 : decode prog_3_method_7_code 67 = .ok (.istore 8, 2) := by decide +kernel
theorem d8_69 : decode prog_3_method_7_code 69 = .ok (.iconst 1, 1) := by decide +kernel
theorem d8_70 : decode prog_3_method_7_code 70 = .ok (.istore 9, 2) := by decide +kernel
theorem d8_72 : decode prog_3_method_7_code 72 = .ok (.iload 9, 2) := by decide +kernel
theorem d8_74 : decode prog_3_method_7_code 74 = .ok (.iload_n 2, 1) := by decide +kernel
theorem d8_75 : decode prog_3_method_7_code 75 = .ok (.if_icmp .gt 116, 3) := by decide +kernel
theorem d8_78 : decode prog_3_method_7_code 78 = .ok (.aload_n 0, 1) := by decide +kernel
theorem d8_79 : decode prog_3_method_7_code 79 = .ok (.getfield 33, 3) := by decide +kernel
theorem d8_82 : decode prog_3_method_7_code 82 = .ok (.iload 9, 2) := by decide +kernel
theorem d8_84 : decode prog_3_method_7_code 84 = .ok (.baload, 1) := by decide +kernel
theorem d8_85 : decode prog_3_method_7_code 85 = .ok (.ifCond .eq 6, 3) := by decide +kernel
theorem d8_88 : decode prog_3_method_7_code 88 = .ok (.goto 97, 3) := by decide +kernel
theorem d8_91 : decode prog_3_method_7_code 91 = .ok (.aload 5, 2) := by decide +kernel
theorem d8_93 : decode prog_3_method_7_code 93 = .ok (.iload 9, 2) := by decide +kernel
theorem d8_95 : decode prog_3_method_7_code 95 = .ok (.iconst 1, 1) := by decide +kernel
theorem d8_96 : decode prog_3_method_7_code 96 = .ok (.isub, 1) := by decide +kernel
theorem d8_97 : decode prog_3_method_7_code 97 = .ok (.laload, 1) := by decide +kernel
theorem d8_98 : decode prog_3_method_7_code 98 = .ok (.lstore 10, 2) := by decide +kernel
theorem d8_100 : decode prog_3_method_7_code 100 = .ok (.lload 10, 2) := by decide +kernel
theorem d8_102 : decode prog_3_method_7_code 102 = .ok (.ldc2_w 37, 3) := by decide +kernel
theorem d8_105 : decode prog_3_method_7_code 105 = .ok (.lcmp, 1) := by decide +kernel
theorem d8_106 : decode prog_3_method_7_code 106 = .ok (.ifCond .eq 53, 3) := by decide +kernel
theorem d8_109 : decode prog_3_method_7_code 109 = .ok (.lload 10, 2) := by decide +kernel
theorem d8_111 : decode prog_3_method_7_code 111 = .ok (.aload_n 0, 1) := by decide +kernel
theorem d8_112 : decode prog_3_method_7_code 112 = .ok (.getfield 16, 3) := by decide +kernel
theorem d8_115 : decode prog_3_method_7_code 115 = .ok (.iload 4, 2) := by decide +kernel
theorem d8_117 : decode prog_3_method_7_code 117 = .ok (.laload, 1) := by decide +kernel
theorem d8_118 : decode prog_3_method_7_code 118 = .ok (.lsub, 1) := by decide +kernel
theorem d8_119 : decode prog_3_method_7_code 119 = .ok (.aload_n 0, 1) := by decide +kernel
theorem d8_120 : decode prog_3_method_7_code 120 = .ok (.getfield 20, 3) := by decide +kernel
theorem d8_123 : decode prog_3_method_7_code 123 = .ok (.iload 9, 2) := by decide +kernel
theorem d8_125 : decode prog_3_method_7_code 125 = .ok (.laload, 1) := by decide +kernel
theorem d8_126 : decode prog_3_method_7_code 126 = .ok (.lsub, 1) := by decide +kernel
theorem d8_127 : decode prog_3_method_7_code 127 = .ok (.lstore 12, 2) := by decide +kernel
theorem d8_129 : decode prog_3_method_7_code 129 = .ok (.lload 12, 2) := by decide +kernel
theorem d8_131 : decode prog_3_method_7_code 131 = .ok (.aload_n 0, 1) := by decide +kernel
theorem d8_132 : decode prog_3_method_7_code 132 = .ok (.getfield 30, 3) := by decide +kernel
theorem d8_135 : decode prog_3_method_7_code 135 = .ok (.iload 9, 2) := by decide +kernel
theorem d8_137 : decode prog_3_method_7_code 137 = .ok (.laload, 1) := by decide +kernel
theorem d8_138 : decode prog_3_method_7_code 138 = .ok (.lcmp, 1) := by decide +kernel
theorem d8_139 : decode prog_3_method_7_code 139 = .ok (.ifCond .ge 20, 3) := by decide +kernel
theorem d8_142 : decode prog_3_method_7_code 142 = .ok (.aload_n 0, 1) := by decide +kernel
theorem d8_143 : decode prog_3_method_7_code 143 = .ok (.getfield 30, 3) := by decide +kernel
theorem d8_146 : decode prog_3_method_7_code 146 = .ok (.iload 9, 2) := by decide +kernel
theorem d8_148 : decode prog_3_method_7_code 148 = .ok (.lload 12, 2) := by decide +kernel
theorem d8_150 : decode prog_3_method_7_code 150 = .ok (.lastore, 1) := by decide +kernel
theorem d8_151 : decode prog_3_method_7_code 151 = .ok (.aload_n 0, 1) := by decide +kernel
theorem d8_152 : decode prog_3_method_7_code 152 = .ok (.getfield 27, 3) := by decide +kernel
theorem d8_155 : decode prog_3_method_7_code 155 = .ok (.iload 9, 2) := by decide +kernel
theorem d8_157 : decode prog_3_method_7_code 157 = .ok (.iload_n 3, 1) := by decide +kernel
theorem d8_158 : decode prog_3_method_7_code 158 = .ok (.iastore, 1) := by decide +kernel
theorem d8_159 : decode prog_3_method_7_code 159 = .ok (.aload_n 0, 1) := by decide +kernel
theorem d8_160 : decode prog_3_method_7_code 160 = .ok (.getfield 30, 3) := by decide +kernel
theorem d8_163 : decode prog_3_method_7_code 163 = .ok (.iload 9, 2) := by decide +kernel
theorem d8_165 : decode prog_3_method_7_code 165 = .ok (.laload, 1) := by decide +kernel
theorem d8_166 : decode prog_3_method_7_code 166 = .ok (.lload 6, 2) := by decide +kernel
theorem d8_168 : decode prog_3_method_7_code 168 = .ok (.lcmp, 1) := by decide +kernel
theorem d8_169 : decode prog_3_method_7_code 169 = .ok (.ifCond .ge 16, 3) := by decide +kernel
theorem d8_172 : decode prog_3_method_7_code 172 = .ok (.aload_n 0, 1) := by decide +kernel
theorem d8_173 : decode prog_3_method_7_code 173 = .ok (.getfield 30, 3) := by decide +kernel
theorem d8_176 : decode prog_3_method_7_code 176 = .ok (.iload 9, 2) := by decide +kernel
theorem d8_178 : decode prog_3_method_7_code 178 = .ok (.laload, 1) := by decide +kernel
theorem d8_179 : decode prog_3_method_7_code 179 = .ok (.lstore 6, 2) := by decide +kernel
theorem d8_181 : decode prog_3_method_7_code 181 = .ok (.iload 9, 2) := by decide +kernel
theorem d8_183 : decode prog_3_method_7_code 183 = .ok (.istore 8, 2) := by decide +kernel
theorem d8_185 : decode prog_3_method_7_code 185 = .ok (.iinc 9 1, 3) := by decide +kernel
theorem d8_188 : decode prog_3_method_7_code 188 = .ok (.goto (-116), 3) := by decide +kernel
theorem d8_191 : decode prog_3_method_7_code 191 = .ok (.iload 8, 2) := by decide +kernel
theorem d8_193 : decode prog_3_method_7_code 193 = .ok (.ifCond .ge 5, 3) := by decide +kernel
theorem d8_198 : decode prog_3_method_7_code 198 = .ok (.iconst 0, 1) := by decide +kernel
theorem d8_199 : decode prog_3_method_7_code 199 = .ok (.istore 9, 2) := by decide +kernel
theorem d8_201 : decode prog_3_method_7_code 201 = .ok (.iload 9, 2) := by decide +kernel
theorem d8_203 : decode prog_3_method_7_code 203 = .ok (.iload_n 2, 1) := by decide +kernel
theorem d8_204 : decode prog_3_method_7_code 204 = .ok (.if_icmp .gt 77, 3) := by decide +kernel
theorem d8_207 : decode prog_3_method_7_code 207 = .ok (.aload_n 0, 1) := by decide +kernel
theorem d8_208 : decode prog_3_method_7_code 208 = .ok (.getfield 33, 3) := by decide +kernel
theorem d8_211 : decode prog_3_method_7_code 211 = .ok (.iload 9, 2) := by decide +kernel
theorem d8_213 : decode prog_3_method_7_code 213 = .ok (.baload, 1) := by decide +kernel
theorem d8_214 : decode prog_3_method_7_code 214 = .ok (.ifCond .eq 35, 3) := by decide +kernel
theorem d8_217 : decode prog_3_method_7_code 217 = .ok (.aload_n 0, 1) := by decide +kernel
theorem d8_218 : decode prog_3_method_7_code 218 = .ok (.getfield 16, 3) := by decide +kernel
theorem d8_221 : decode prog_3_method_7_code 221 = .ok (.aload_n 0, 1) := by decide +kernel
theorem d8_222 : decode prog_3_method_7_code 222 = .ok (.getfield 23, 3) := by decide +kernel
theorem d8_225 : decode prog_3_method_7_code 225 = .ok (.iload 9, 2) := by decide +kernel
theorem d8_227 : decode prog_3_method_7_code 227 = .ok (.iaload, 1) := by decide +kernel
theorem d8_228 : decode prog_3_method_7_code 228 = .ok (.dup2, 1) := by decide +kernel
theorem d8_229 : decode prog_3_method_7_code 229 = .ok (.laload, 1) := by decide +kernel
theorem d8_230 : decode prog_3_method_7_code 230 = .ok (.lload 6, 2) := by decide +kernel
theorem d8_232 : decode prog_3_method_7_code 232 = .ok (.ladd, 1) := by decide +kernel
theorem d8_233 : decode prog_3_method_7_code 233 = .ok (.lastore, 1) := by decide +kernel
theorem d8_234 : decode prog_3_method_7_code 234 = .ok (.aload_n 0, 1) := by decide +kernel
theorem d8_235 : decode prog_3_method_7_code 235 = .ok (.getfield 20, 3) := by decide +kernel
theorem d8_238 : decode prog_3_method_7_code 238 = .ok (.iload 9, 2) := by decide +kernel
theorem d8_240 : decode prog_3_method_7_code 240 = .ok (.dup2, 1) := by decide +kernel
theorem d8_241 : decode prog_3_method_7_code 241 = .ok (.laload, 1) := by decide +kernel
theorem d8_242 : decode prog_3_method_7_code 242 = .ok (.lload 6, 2) := by decide +kernel
theorem d8_244 : decode prog_3_method_7_code 244 = .ok (.lsub, 1) := by decide +kernel
theorem d8_245 : decode prog_3_method_7_code 245 = .ok (.lastore, 1) := by decide +kernel
theorem d8_246 : decode prog_3_method_7_code 246 = .ok (.goto 29, 3) := by decide +kernel
theorem d8_249 : decode prog_3_method_7_code 249 = .ok (.aload_n 0, 1) := by decide +kernel
theorem d8_250 : decode prog_3_method_7_code 250 = .ok (.getfield 30, 3) := by decide +kernel
theorem d8_253 : decode prog_3_method_7_code 253 = .ok (.iload 9, 2) := by decide +kernel
theorem d8_255 : decode prog_3_method_7_code 255 = .ok (.laload, 1) := by decide +kernel
theorem d8_256 : decode prog_3_method_7_code 256 = .ok (.ldc2_w 37, 3) := by decide +kernel
theorem d8_259 : decode prog_3_method_7_code 259 = .ok (.lcmp, 1) := by decide +kernel
theorem d8_260 : decode prog_3_method_7_code 260 = .ok (.ifCond .eq 15, 3) := by decide +kernel
theorem d8_263 : decode prog_3_method_7_code 263 = .ok (.aload_n 0, 1) := by decide +kernel
theorem d8_264 : decode prog_3_method_7_code 264 = .ok (.getfield 30, 3) := by decide +kernel
theorem d8_267 : decode prog_3_method_7_code 267 = .ok (.iload 9, 2) := by decide +kernel
theorem d8_269 : decode prog_3_method_7_code 269 = .ok (.dup2, 1) := by decide +kernel
theorem d8_270 : decode prog_3_method_7_code 270 = .ok (.laload, 1) := by decide +kernel
theorem d8_271 : decode prog_3_method_7_code 271 = .ok (.lload 6, 2) := by decide +kernel
theorem d8_273 : decode prog_3_method_7_code 273 = .ok (.lsub, 1) := by decide +kernel
theorem d8_274 : decode prog_3_method_7_code 274 = .ok (.lastore, 1) := by decide +kernel
theorem d8_275 : decode prog_3_method_7_code 275 = .ok (.iinc 9 1, 3) := by decide +kernel
theorem d8_278 : decode prog_3_method_7_code 278 = .ok (.goto (-77), 3) := by decide +kernel
theorem d8_281 : decode prog_3_method_7_code 281 = .ok (.iload 8, 2) := by decide +kernel
theorem d8_283 : decode prog_3_method_7_code 283 = .ok (.istore_n 3, 1) := by decide +kernel
theorem d8_284 : decode prog_3_method_7_code 284 = .ok (.aload_n 0, 1) := by decide +kernel
theorem d8_285 : decode prog_3_method_7_code 285 = .ok (.getfield 23, 3) := by decide +kernel
theorem d8_288 : decode prog_3_method_7_code 288 = .ok (.iload_n 3, 1) := by decide +kernel
theorem d8_289 : decode prog_3_method_7_code 289 = .ok (.iaload, 1) := by decide +kernel
theorem d8_290 : decode prog_3_method_7_code 290 = .ok (.ifCond .ne (-255), 3) := by decide +kernel
theorem d8_293 : decode prog_3_method_7_code 293 = .ok (.iload_n 3, 1) := by decide +kernel
theorem d8_294 : decode prog_3_method_7_code 294 = .ok (.ifCond .eq 30, 3) := by decide +kernel
theorem d8_297 : decode prog_3_method_7_code 297 = .ok (.aload_n 0, 1) := by decide +kernel
theorem d8_298 : decode prog_3_method_7_code 298 = .ok (.getfield 27, 3) := by decide +kernel
theorem d8_301 : decode prog_3_method_7_code 301 = .ok (.iload_n 3, 1) := by decide +kernel
theorem d8_302 : decode prog_3_method_7_code 302 = .ok (.iaload, 1) := by decide +kernel
theorem d8_303 : decode prog_3_method_7_code 303 = .ok (.istore 4, 2) := by decide +kernel
theorem d8_305 : decode prog_3_method_7_code 305 = .ok (.aload_n 0, 1) := by decide +kernel
theorem d8_306 : decode prog_3_method_7_code 306 = .ok (.getfield 23, 3) := by decide +kernel
theorem d8_309 : decode prog_3_method_7_code 309 = .ok (.iload_n 3, 1) := by decide +kernel
theorem d8_310 : decode prog_3_method_7_code 310 = .ok (.aload_n 0, 1) := by decide +kernel
theorem d8_311 : decode prog_3_method_7_code 311 = .ok (.getfield 23, 3) := by decide +kernel
theorem d8_314 : decode prog_3_method_7_code 314 = .ok (.iload 4, 2) := by decide +kernel
theorem d8_316 : decode prog_3_method_7_code 316 = .ok (.iaload, 1) := by decide +kernel
theorem d8_317 : decode prog_3_method_7_code 317 = .ok (.iastore, 1) := by decide +kernel
theorem d8_318 : decode prog_3_method_7_code 318 = .ok (.iload 4, 2) := by decide +kernel
theorem d8_320 : decode prog_3_method_7_code 320 = .ok (.istore_n 3, 1) := by decide +kernel
theorem d8_321 : decode prog_3_method_7_code 321 = .ok (.goto (-28), 3) := by decide +kernel
theorem d8_324 : decode prog_3_method_7_code 324 = .ok (.iconst 1, 1) := by decide +kernel
theorem d8_325 : decode prog_3_method_7_code 325 = .ok (.ireturn, 1) := by decide +kernel
theorem d9_0 : decode jdk_65_method_112_code 0 = .ok (.aload_n 0, 1) := by decide +kernel
theorem d9_1 : decode jdk_65_method_112_code 1 = .ok (.arraylength, 1) := by decide +kernel
theorem d9_2 : decode jdk_65_method_112_code 2 = .ok (.iload_n 1, 1) := by decide +kernel
theorem d9_3 : decode jdk_65_method_112_code 3 = .ok (.iload_n 2, 1) := by decide +kernel
theorem d9_4 : decode jdk_65_method_112_code 4 = .ok (.invokestatic 13, 3) := by decide +kernel
theorem d9_7 : decode jdk_65_method_112_code 7 = .ok (.iload_n 1, 1) := by decide +kernel
theorem d9_8 : decode jdk_65_method_112_code 8 = .ok (.istore 4, 2) := by decide +kernel
theorem d9_10 : decode jdk_65_method_112_code 10 = .ok (.iload 4, 2) := by decide +kernel
theorem d9_12 : decode jdk_65_method_112_code 12 = .ok (.iload_n 2, 1) := by decide +kernel
theorem d9_13 : decode jdk_65_method_112_code 13 = .ok (.if_icmp .ge 14, 3) := by decide +kernel
theorem d9_16 : decode jdk_65_method_112_code 16 = .ok (.aload_n 0, 1) := by decide +kernel
theorem d9_17 : decode jdk_65_method_112_code 17 = .ok (.iload 4, 2) := by decide +kernel
theorem d9_19 : decode jdk_65_method_112_code 19 = .ok (.iload_n 3, 1) := by decide +kernel
theorem d9_20 : decode jdk_65_method_112_code 20 = .ok (.bastore, 1) := by decide +kernel
theorem d9_21 : decode jdk_65_method_112_code 21 = .ok (.iinc 4 1, 3) := by decide +kernel
theorem d9_24 : decode jdk_65_method_112_code 24 = .ok (.goto (-14), 3) := by decide +kernel
theorem d9_27 : decode jdk_65_method_112_code 27 = .ok (.return_, 1) := by decide +kernel
theorem d10_0 : decode jdk_29_method_70_code 0 = .ok (.lload_n 0, 1) := by decide +kernel
theorem d10_1 : decode jdk_29_method_70_code 1 = .ok (.lload_n 2, 1) := by decide +kernel
theorem d10_2 : decode jdk_29_method_70_code 2 = .ok (.lcmp, 1) := by decide +kernel
theorem d10_3 : decode jdk_29_method_70_code 3 = .ok (.ifCond .gt 7, 3) := by decide +kernel
theorem d10_6 : decode jdk_29_method_70_code 6 = .ok (.lload_n 0, 1) := by decide +kernel
theorem d10_7 : decode jdk_29_method_70_code 7 = .ok (.goto 4, 3) := by decide +kernel
theorem d10_10 : decode jdk_29_method_70_code 10 = .ok (.lload_n 2, 1) := by decide +kernel
theorem d10_11 : decode jdk_29_method_70_code 11 = .ok (.lreturn, 1) := by decide +kernel
theorem d11_0 : decode prog_3_method_4_code 0 = .ok (.aload_n 0, 1) := by decide +kernel
theorem d11_1 : decode prog_3_method_4_code 1 = .ok (.getfield 11, 3) := by decide +kernel
theorem d11_4 : decode prog_3_method_4_code 4 = .ok (.iload_n 1, 1) := by decide +kernel
theorem d11_5 : decode prog_3_method_4_code 5 = .ok (.aaload, 1) := by decide +kernel
theorem d11_6 : decode prog_3_method_4_code 6 = .ok (.iload_n 2, 1) := by decide +kernel
theorem d11_7 : decode prog_3_method_4_code 7 = .ok (.laload, 1) := by decide +kernel
theorem d11_8 : decode prog_3_method_4_code 8 = .ok (.aload_n 0, 1) := by decide +kernel
theorem d11_9 : decode prog_3_method_4_code 9 = .ok (.getfield 16, 3) := by decide +kernel
theorem d11_12 : decode prog_3_method_4_code 12 = .ok (.iload_n 1, 1) := by decide +kernel
theorem d11_13 : decode prog_3_method_4_code 13 = .ok (.iconst 1, 1) := by decide +kernel
theorem d11_14 : decode prog_3_method_4_code 14 = .ok (.iadd, 1) := by decide +kernel
theorem d11_15 : decode prog_3_method_4_code 15 = .ok (.laload, 1) := by decide +kernel
theorem d11_16 : decode prog_3_method_4_code 16 = .ok (.lsub, 1) := by decide +kernel
theorem d11_17 : decode prog_3_method_4_code 17 = .ok (.aload_n 0, 1) := by decide +kernel
theorem d11_18 : decode prog_3_method_4_code 18 = .ok (.getfield 20, 3) := by decide +kernel
theorem d11_21 : decode prog_3_method_4_code 21 = .ok (.iload_n 2, 1) := by decide +kernel
theorem d11_22 : decode prog_3_method_4_code 22 = .ok (.iconst 1, 1) := by decide +kernel
theorem d11_23 : decode prog_3_method_4_code 23 = .ok (.iadd, 1) := by decide +kernel
theorem d11_24 : decode prog_3_method_4_code 24 = .ok (.laload, 1) := by decide +kernel
theorem d11_25 : decode prog_3_method_4_code 25 = .ok (.lsub, 1) := by decide +kernel
theorem d11_26 : decode prog_3_method_4_code 26 = .ok (.lreturn, 1) := by decide +kernel
theorem d12_0 : decode prog_3_method_5_code 0 = .ok (.aload_n 0, 1) := by decide +kernel
theorem d12_1 : decode prog_3_method_5_code 1 = .ok (.getfield 16, 3) := by decide +kernel
theorem d12_4 : decode prog_3_method_5_code 4 = .ok (.iload_n 1, 1) := by decide +kernel
theorem d12_5 : decode prog_3_method_5_code 5 = .ok (.iconst 1, 1) := by decide +kernel
theorem d12_6 : decode prog_3_method_5_code 6 = .ok (.iadd, 1) := by decide +kernel
theorem d12_7 : decode prog_3_method_5_code 7 = .ok (.laload, 1) := by decide +kernel
theorem d12_8 : decode prog_3_method_5_code 8 = .ok (.lreturn, 1) := by decide +kernel
theorem d13_0 : decode prog_3_method_6_code 0 = .ok (.aload_n 0, 1) := by decide +kernel
theorem d13_1 : decode prog_3_method_6_code 1 = .ok (.getfield 20, 3) := by decide +kernel
theorem d13_4 : decode prog_3_method_6_code 4 = .ok (.iload_n 1, 1) := by decide +kernel
theorem d13_5 : decode prog_3_method_6_code 5 = .ok (.iconst 1, 1) := by decide +kernel
theorem d13_6 : decode prog_3_method_6_code 6 = .ok (.iadd, 1) := by decide +kernel
theorem d13_7 : decode prog_3_method_6_code 7 = .ok (.laload, 1) := by decide +kernel
theorem d13_8 : decode prog_3_method_6_code 8 = .ok (.lreturn, 1) := by decide +kernel
theorem pd_0 : parseMethodDescriptor "(III)V" = some ⟨[.int, .int, .int], none⟩ := by decide +kernel
theorem pd_1 : parseMethodDescriptor "([JIIJ)V" = some ⟨[(.array .long), .int, .int, .long], none⟩ := by decide +kernel
theorem pd_2 : parseMethodDescriptor "([ZIIZ)V" = some ⟨[(.array .boolean), .int, .int, .boolean], none⟩ := by decide +kernel
theorem pd_3 : parseMethodDescriptor "([IIII)V" = some ⟨[(.array .int), .int, .int, .int], none⟩ := by decide +kernel
theorem pd_4 : parseMethodDescriptor "(II)Z" = some ⟨[.int, .int], some .boolean⟩ := by decide +kernel
theorem pd_5 : parseMethodDescriptor "(II)V" = some ⟨[.int, .int], none⟩ := by decide +kernel
theorem pd_6 : parseMethodDescriptor "(I)[J" = some ⟨[.int], some (.array .long)⟩ := by decide +kernel
theorem pd_7 : parseMethodDescriptor "(II)J" = some ⟨[.int, .int], some .long⟩ := by decide +kernel
theorem pd_8 : parseMethodDescriptor "(JJ)J" = some ⟨[.long, .long], some .long⟩ := by decide +kernel
theorem pd_9 : parseMethodDescriptor "(I)J" = some ⟨[.int], some .long⟩ := by decide +kernel
theorem pn_0 : plainName "java/util/Arrays" = true := by first | (simp [plainName, overriddenIn]; done) | decide +kernel
theorem pn_1 : plainName "com/example/weftwork/weftwork/algorithm/Assignment" = true := by first | (simp [plainName, overriddenIn]; done) | decide +kernel
theorem pn_2 : plainName "com/example/weftwork/weftwork/algorithm/AssignmentReducedCostPinLaw" = true := by first | (simp [plainName, overriddenIn]; done) | decide +kernel
theorem ef_rc (m : MethodId)  : entryFrame m #[(.int (3 : Int32)), (.int (0 : Int32)), (.int (3 : Int32))] 3 = mkF m 0 #[.val (.int (3 : Int32)), .val (.int (0 : Int32)), .val (.int (3 : Int32))] [] := by first | (simp [entryFrame, mkF, argsToLocals, Value.category]; done) | rfl
theorem ef_5 (m : MethodId) (x0 : Addr) (x3 : Int64) : entryFrame m #[(.ref x0), (.int (0 : Int32)), (.int (3 : Int32)), (.long x3)] 6 = mkF m 0 #[.val (.ref x0), .val (.int (0 : Int32)), .val (.int (3 : Int32)), .val (.long x3), .second, .unset] [] := by first | (simp [entryFrame, mkF, argsToLocals, Value.category]; done) | rfl
theorem ef_7 (m : MethodId) (x0 : Addr) : entryFrame m #[(.ref x0), (.int (0 : Int32)), (.int (3 : Int32)), (.int (0 : Int32))] 5 = mkF m 0 #[.val (.ref x0), .val (.int (0 : Int32)), .val (.int (3 : Int32)), .val (.int (0 : Int32)), .unset] [] := by first | (simp [entryFrame, mkF, argsToLocals, Value.category]; done) | rfl
theorem ef_9 (m : MethodId) (x0 : Addr) : entryFrame m #[(.ref x0), (.int (0 : Int32)), (.int (3 : Int32)), (.int (0 : Int32))] 5 = mkF m 0 #[.val (.ref x0), .val (.int (0 : Int32)), .val (.int (3 : Int32)), .val (.int (0 : Int32)), .unset] [] := by first | (simp [entryFrame, mkF, argsToLocals, Value.category]; done) | rfl
theorem ef_aug1 (m : MethodId) (x : Addr) : entryFrame m #[(.ref x), (.int (1 : Int32)), (.int (2 : Int32))] 14 = mkF m 0 #[.val (.ref x), .val (.int (1 : Int32)), .val (.int (2 : Int32)), .unset, .unset, .unset, .unset, .unset, .unset, .unset, .unset, .unset, .unset, .unset] [] := by first | (simp [entryFrame, mkF, argsToLocals, Value.category]; done) | rfl
theorem ef_aug2_1 (m : MethodId) (x : Addr) : entryFrame m #[(.ref x), (.int (2 : Int32)), (.int (2 : Int32))] 14 = mkF m 0 #[.val (.ref x), .val (.int (2 : Int32)), .val (.int (2 : Int32)), .unset, .unset, .unset, .unset, .unset, .unset, .unset, .unset, .unset, .unset, .unset] [] := by first | (simp [entryFrame, mkF, argsToLocals, Value.category]; done) | rfl
theorem ef_aug2_2 (m : MethodId) (x : Addr) : entryFrame m #[(.ref x), (.int (2 : Int32)), (.int (2 : Int32))] 14 = mkF m 0 #[.val (.ref x), .val (.int (2 : Int32)), .val (.int (2 : Int32)), .unset, .unset, .unset, .unset, .unset, .unset, .unset, .unset, .unset, .unset, .unset] [] := by first | (simp [entryFrame, mkF, argsToLocals, Value.category]; done) | rfl
theorem ef_sol (m : MethodId) (x : Addr) : entryFrame m #[(.ref x), (.int (2 : Int32)), (.int (2 : Int32))] 4 = mkF m 0 #[.val (.ref x), .val (.int (2 : Int32)), .val (.int (2 : Int32)), .unset] [] := by first | (simp [entryFrame, mkF, argsToLocals, Value.category]; done) | rfl
theorem ef_1 (m : MethodId) (x0 : Addr) : entryFrame m #[(.ref x0), (.int (2 : Int32)), (.int (2 : Int32))] 3 = mkF m 0 #[.val (.ref x0), .val (.int (2 : Int32)), .val (.int (2 : Int32))] [] := by first | (simp [entryFrame, mkF, argsToLocals, Value.category]; done) | rfl
theorem ef_row0 (m : MethodId) (x : Addr) : entryFrame m #[(.ref x), (.int (0 : Int32))] 2 = mkF m 0 #[.val (.ref x), .val (.int (0 : Int32))] [] := by first | (simp [entryFrame, mkF, argsToLocals, Value.category]; done) | rfl
theorem ef_roc0 (m : MethodId) (x : Addr) : entryFrame m #[(.ref x), (.int (0 : Int32))] 2 = mkF m 0 #[.val (.ref x), .val (.int (0 : Int32))] [] := by first | (simp [entryFrame, mkF, argsToLocals, Value.category]; done) | rfl
theorem ef_coc0 (m : MethodId) (x : Addr) : entryFrame m #[(.ref x), (.int (0 : Int32))] 2 = mkF m 0 #[.val (.ref x), .val (.int (0 : Int32))] [] := by first | (simp [entryFrame, mkF, argsToLocals, Value.category]; done) | rfl
theorem ef_rdc00 (m : MethodId) (x : Addr) : entryFrame m #[(.ref x), (.int (0 : Int32)), (.int (0 : Int32))] 3 = mkF m 0 #[.val (.ref x), .val (.int (0 : Int32)), .val (.int (0 : Int32))] [] := by first | (simp [entryFrame, mkF, argsToLocals, Value.category]; done) | rfl
theorem ef_rdc01 (m : MethodId) (x : Addr) : entryFrame m #[(.ref x), (.int (0 : Int32)), (.int (1 : Int32))] 3 = mkF m 0 #[.val (.ref x), .val (.int (0 : Int32)), .val (.int (1 : Int32))] [] := by first | (simp [entryFrame, mkF, argsToLocals, Value.category]; done) | rfl
theorem ef_row1 (m : MethodId) (x : Addr) : entryFrame m #[(.ref x), (.int (1 : Int32))] 2 = mkF m 0 #[.val (.ref x), .val (.int (1 : Int32))] [] := by first | (simp [entryFrame, mkF, argsToLocals, Value.category]; done) | rfl
theorem ef_roc1 (m : MethodId) (x : Addr) : entryFrame m #[(.ref x), (.int (1 : Int32))] 2 = mkF m 0 #[.val (.ref x), .val (.int (1 : Int32))] [] := by first | (simp [entryFrame, mkF, argsToLocals, Value.category]; done) | rfl
theorem ef_coc1 (m : MethodId) (x : Addr) : entryFrame m #[(.ref x), (.int (1 : Int32))] 2 = mkF m 0 #[.val (.ref x), .val (.int (1 : Int32))] [] := by first | (simp [entryFrame, mkF, argsToLocals, Value.category]; done) | rfl
theorem ef_rdc10 (m : MethodId) (x : Addr) : entryFrame m #[(.ref x), (.int (1 : Int32)), (.int (0 : Int32))] 3 = mkF m 0 #[.val (.ref x), .val (.int (1 : Int32)), .val (.int (0 : Int32))] [] := by first | (simp [entryFrame, mkF, argsToLocals, Value.category]; done) | rfl
theorem ef_rdc11 (m : MethodId) (x : Addr) : entryFrame m #[(.ref x), (.int (1 : Int32)), (.int (1 : Int32))] 3 = mkF m 0 #[.val (.ref x), .val (.int (1 : Int32)), .val (.int (1 : Int32))] [] := by first | (simp [entryFrame, mkF, argsToLocals, Value.category]; done) | rfl
theorem ef_10 (m : MethodId) (x0 : Int64) (x1 : Int64) : entryFrame m #[(.long x0), (.long x1)] 4 = mkF m 0 #[.val (.long x0), .second, .val (.long x1), .second] [] := by first | (simp [entryFrame, mkF, argsToLocals, Value.category]; done) | rfl
theorem ef_0 (m : MethodId) (x0 : Int64) (x1 : Int64) (x2 : Int64) (x3 : Int64) (x4 : Int32) (x5 : Int32) : entryFrame m #[(.long x0), (.long x1), (.long x2), (.long x3), (.int x4), (.int x5)] maxLocals = mkF m 0 #[.val (.long x0), .second, .val (.long x1), .second, .val (.long x2), .second, .val (.long x3), .second, .val (.int x4), .val (.int x5), .unset, .unset, .unset, .unset, .unset, .unset, .unset, .unset, .unset, .unset, .unset, .unset, .unset, .unset, .unset, .unset, .unset, .unset, .unset, .unset, .unset, .unset, .unset, .unset, .unset, .unset, .unset, .unset, .unset, .unset, .unset, .unset, .unset, .unset, .unset, .unset, .unset, .unset, .unset, .unset] [] := by first | (simp [entryFrame, mkF, argsToLocals, Value.category, maxLocals]; done) | rfl
set_option maxRecDepth 65536 in
set_option maxHeartbeats 40000000 in
theorem scan1 {p : Program} {l : Launch} {e : Env} {R : Room} {s : State} {m : MethodId} {args : Array Value} {below : List Frame} {meth : Method} {c : Code} {Fz : Outcome → State → Prop} {Z : State} {a0 : Array Value} (hx : p.tables.exec = Jvm.exec) (hby : c.code = prog_3_method_7_code) (hml : c.maxLocals = 14) (hown : s.vm.findClass "com/example/weftwork/weftwork/algorithm/Assignment" = some m.cls) (hZ : Z.Warmed39 s.vm) (hw : ∀ d ∈ tables_1, d.before a0 Z = true) {n0 cells slots : Nat} {locs : List Loc} {T : State} {h : Heap} {x cs r0 r1 up vp ho pr re dn rr : Addr} {kc k0 k1 ku kv kh kp kr kd : ClassId} {ca cb cc cd U0 U1 U2 V0 V1 V2 Q0 Q1 Q2 least : Int64} {H0 H1 H2 P0 P1 P2 D0 D2 w1 col r next : Int32} {s10 s11 s12 s13 : Slot} (ord : OwnOrd n0 x cs r0 r1 up vp ho pr re dn) (B : OwnB Z h x cs r0 r1 up vp ho pr re dn kc k0 k1 ca cb cc cd) (Aup : Arv Z h up ku .long (3 : Int32) [(.long U0), (.long U1), (.long U2)] (.long 0)) (Avp : Arv Z h vp kv .long (3 : Int32) [(.long V0), (.long V1), (.long V2)] (.long 0)) (Aho : Arv Z h ho kh .int (3 : Int32) [(.int H0), (.int H1), (.int H2)] (.int 0)) (Apr : Arv Z h pr kp .int (3 : Int32) [(.int P0), (.int P1), (.int P2)] (.int 0)) (Are : Arv Z h re kr .long (3 : Int32) [(.long Q0), (.long Q1), (.long Q2)] (.long 0)) (Adn : Arv Z h dn kd .boolean (3 : Int32) [(.int D0), (.int (0 : Int32)), (.int D2)] (.int 0)) {krr : ClassId} {c1 c2 : Int64} (Vc : Arv Z h rr krr .long (2 : Int32) [.long c1, .long c2] (.long 0)) (nrr : rr ≠ re) (nrp : rr ≠ pr) {u : Int64} (hjr : ¬ r < 0 ∧ r < (3 : Int32)) (hur : ([.long U0, .long U1, .long U2] : List Value).getD r.toNatClampNeg (.long 0) = .long u) (hcb : OwnCost c1) (hub : OwnBd u) (hvb : OwnBd V1) (hs10 : OwnPair s10 s11) (hs12 : OwnPair s12 s13) (hN : Fr n0 locs) (X0 : Stand p l e R s m args below meth c T locs cells slots) (e0 : T.heap = h)
    (kt : ∀ (T' : State) (h' : Heap) (L' : List Loc) (Q' g' : Int64) (P' n' : Int32) (t10 t11 t12 t13 : Slot), Stand p l e R s m args below meth c T' L' cells slots → T'.heap = h' → Fr n0 L' → OwnB Z h' x cs r0 r1 up vp ho pr re dn kc k0 k1 ca cb cc cd → Arv Z h' up ku .long (3 : Int32) [(.long U0), (.long U1), (.long U2)] (.long 0) → Arv Z h' vp kv .long (3 : Int32) [(.long V0), (.long V1), (.long V2)] (.long 0) → Arv Z h' ho kh .int (3 : Int32) [(.int H0), (.int H1), (.int H2)] (.int 0) → Arv Z h' pr kp .int (3 : Int32) [(.int P0), (.int P'), (.int P2)] (.int 0) → Arv Z h' re kr .long (3 : Int32) [(.long Q0), (.long Q'), (.long Q2)] (.long 0) → Arv Z h' dn kd .boolean (3 : Int32) [(.int D0), (.int (0 : Int32)), (.int D2)] (.int 0) → OwnPair t10 t11 → OwnPair t12 t13 → OwnScan c1 u V1 Q1 least Q' g' P1 next col (1 : Int32) P' n' → Ends p.tables e below Fz (T'.setTop (mkF m 72 #[.val (.ref x), .val (.int w1), .val (.int (2 : Int32)), .val (.int col), .val (.int r), .val (.ref rr), .val (.long g'), .second, .val (.int n'), .val (.int (2 : Int32)), t10, t11, t12, t13] []))) :
    Ends p.tables e below Fz (T.setTop (mkF m 72 #[.val (.ref x), .val (.int w1), .val (.int (2 : Int32)), .val (.int col), .val (.int r), .val (.ref rr), .val (.long least), .second, .val (.int next), .val (.int (1 : Int32)), s10, s11, s12, s13] [])) := by
  refine own_iload X0 hx hby d8_72 rfl rfl ?_
  refine own_iloadN X0 hx hby d8_74 rfl rfl ?_
  refine own_icmp_gt X0 hx hby d8_75 (pcY := 191) (pcN := 78) (by decide) rfl (fun (hc1 : 2 < 1) => False.elim (by exact absurd hc1 (by decide))) (fun (hc1 : 1 ≤ 2) => ?_)
  refine own_aloadN X0 hx hby d8_78 rfl rfl rfl ?_
  refine own_getfield X0 hx hby hZ hown (host := "") (Or.inl (hw _ tw_27)) Via.refl e0 (B_done B) d8_79 rfl (fun T2 X2 e2 => ?_)
  refine own_iload X2 hx hby d8_82 rfl rfl ?_
  refine own_zaload X2 hx hby hZ (0 : Int32) e2 Adn (by decide) rfl d8_84 rfl ?_
  refine own_if_eq X2 hx hby d8_85 (pcY := 91) (pcN := 88) (by decide) rfl (fun (hc3 : (0 : Int32) = (0 : Int32)) => ?_) (fun (hc3 : ¬ (0 : Int32) = (0 : Int32)) => False.elim (by exact absurd hc3 (by decide)))
  refine own_aload X2 hx hby d8_91 rfl rfl rfl ?_
  refine own_iload X2 hx hby d8_93 rfl rfl ?_
  refine own_iconst X2 hx hby d8_95 rfl (1 : Int32) rfl ?_
  refine own_isub X2 hx hby d8_96 rfl ?_
  show Ends p.tables e below _ (T2.setTop (mkF m 97 #[.val (.ref x), .val (.int w1), .val (.int (2 : Int32)), .val (.int col), .val (.int r), .val (.ref rr), .val (.long least), .second, .val (.int next), .val (.int (1 : Int32)), s10, s11, s12, s13] [(.int (0 : Int32)), (.ref rr)]))
  refine own_laload X2 hx hby hZ c1 e2 Vc (by decide) rfl d8_97 rfl ?_
  refine own_lstore X2 hx hby d8_98 rfl #[.val (.ref x), .val (.int w1), .val (.int (2 : Int32)), .val (.int col), .val (.int r), .val (.ref rr), .val (.long least), .second, .val (.int next), .val (.int (1 : Int32)), .val (.long c1), .second, s12, s13] (own_st10 hs10) ?_
  refine own_lload X2 hx hby d8_100 rfl rfl ?_
  refine own_ldc2J X2 hx hby hZ hown (hw _ tw_53) d8_102 rfl ?_
  refine own_lcmp_eq X2 hx hby d8_105 d8_106 (pcY := 159) (pcN := 109) (by decide) rfl (fun (hc4 : c1 = (9223372036854775807 : Int64)) => ?_) (fun (hc4 : ¬ c1 = (9223372036854775807 : Int64)) => ?_)
  · -- pc 105: t
    refine own_aloadN X2 hx hby d8_159 rfl rfl rfl ?_
    refine own_getfield X2 hx hby hZ hown (host := "") (Or.inl (hw _ tw_24)) Via.refl e2 (B_reach B) d8_160 rfl (fun T5 X5 e5 => ?_)
    refine own_iload X5 hx hby d8_163 rfl rfl ?_
    refine own_laload X5 hx hby hZ Q1 e5 Are (by decide) rfl d8_165 rfl ?_
    refine own_lload X5 hx hby d8_166 rfl rfl ?_
    refine own_lcmp_ge X5 hx hby d8_168 d8_169 (pcY := 185) (pcN := 172) (by decide) rfl (fun (hc6 : least.toInt ≤ Q1.toInt) => ?_) (fun (hc6 : Q1.toInt < least.toInt) => ?_)
    · -- pc 168: t
      refine own_iinc X5 hx hby d8_185 rfl (1 : Int32) rfl #[.val (.ref x), .val (.int w1), .val (.int (2 : Int32)), .val (.int col), .val (.int r), .val (.ref rr), .val (.long least), .second, .val (.int next), .val (.int (2 : Int32)), .val (.long c1), .second, s12, s13] rfl rfl ?_
      refine own_goto X5 hx hby d8_188 (pc' := 72) (by decide) ?_
      exact kt T5 _ _ Q1 least P1 next (.val (.long c1)) (.second) (s12) (s13) X5 e5 hN B Aup Avp Aho Apr Are Adn (Or.inr ⟨_, rfl, rfl⟩) hs12 ⟨Or.inl ⟨by rw [hc4]; exact own_iN, rfl, rfl⟩, Or.inr ⟨hc6, rfl, rfl⟩⟩
    · -- pc 168: f
      refine own_aloadN X5 hx hby d8_172 rfl rfl rfl ?_
      refine own_getfield X5 hx hby hZ hown (host := "") (Or.inl (hw _ tw_24)) Via.refl e5 (B_reach B) d8_173 rfl (fun T7 X7 e7 => ?_)
      refine own_iload X7 hx hby d8_176 rfl rfl ?_
      refine own_laload X7 hx hby hZ Q1 e7 Are (by decide) rfl d8_178 rfl ?_
      refine own_lstore X7 hx hby d8_179 rfl #[.val (.ref x), .val (.int w1), .val (.int (2 : Int32)), .val (.int col), .val (.int r), .val (.ref rr), .val (.long Q1), .second, .val (.int next), .val (.int (1 : Int32)), .val (.long c1), .second, s12, s13] rfl ?_
      refine own_iload X7 hx hby d8_181 rfl rfl ?_
      refine own_istore X7 hx hby d8_183 rfl #[.val (.ref x), .val (.int w1), .val (.int (2 : Int32)), .val (.int col), .val (.int r), .val (.ref rr), .val (.long Q1), .second, .val (.int (1 : Int32)), .val (.int (1 : Int32)), .val (.long c1), .second, s12, s13] rfl ?_
      refine own_iinc X7 hx hby d8_185 rfl (1 : Int32) rfl #[.val (.ref x), .val (.int w1), .val (.int (2 : Int32)), .val (.int col), .val (.int r), .val (.ref rr), .val (.long Q1), .second, .val (.int (1 : Int32)), .val (.int (2 : Int32)), .val (.long c1), .second, s12, s13] rfl rfl ?_
      refine own_goto X7 hx hby d8_188 (pc' := 72) (by decide) ?_
      exact kt T7 _ _ Q1 Q1 P1 (1 : Int32) (.val (.long c1)) (.second) (s12) (s13) X7 e7 hN B Aup Avp Aho Apr Are Adn (Or.inr ⟨_, rfl, rfl⟩) hs12 ⟨Or.inl ⟨by rw [hc4]; exact own_iN, rfl, rfl⟩, Or.inl ⟨hc6, rfl, rfl⟩⟩
  · -- pc 105: f
    refine own_lload X2 hx hby d8_109 rfl rfl ?_
    refine own_aloadN X2 hx hby d8_111 rfl rfl rfl ?_
    refine own_getfield X2 hx hby hZ hown (host := "") (Or.inl (hw _ tw_15)) Via.refl e2 (B_rowPotential B) d8_112 rfl (fun T8 X8 e8 => ?_)
    refine own_iload X8 hx hby d8_115 rfl rfl ?_
    refine own_laload X8 hx hby hZ u e8 Aup hjr hur d8_117 rfl ?_
    refine own_lsub X8 hx hby d8_118 rfl ?_
    refine own_aloadN X8 hx hby d8_119 rfl rfl rfl ?_
    refine own_getfield X8 hx hby hZ hown (host := "") (Or.inl (hw _ tw_17)) Via.refl e8 (B_columnPotential B) d8_120 rfl (fun T9 X9 e9 => ?_)
    refine own_iload X9 hx hby d8_123 rfl rfl ?_
    refine own_laload X9 hx hby hZ V1 e9 Avp (by decide) rfl d8_125 rfl ?_
    refine own_lsub X9 hx hby d8_126 rfl ?_
    generalize hg : ((c1 - u) - V1) = y
    have hy : y.toInt = c1.toInt - u.toInt - V1.toInt := by rw [← hg]; exact own_sub2 (own_costn hcb hc4) hub hvb
    show Ends p.tables e below _ (T9.setTop (mkF m 127 #[.val (.ref x), .val (.int w1), .val (.int (2 : Int32)), .val (.int col), .val (.int r), .val (.ref rr), .val (.long least), .second, .val (.int next), .val (.int (1 : Int32)), .val (.long c1), .second, s12, s13] [(.long y)]))
    refine own_lstore X9 hx hby d8_127 rfl #[.val (.ref x), .val (.int w1), .val (.int (2 : Int32)), .val (.int col), .val (.int r), .val (.ref rr), .val (.long least), .second, .val (.int next), .val (.int (1 : Int32)), .val (.long c1), .second, .val (.long y), .second] (own_st12 hs12) ?_
    refine own_lload X9 hx hby d8_129 rfl rfl ?_
    refine own_aloadN X9 hx hby d8_131 rfl rfl rfl ?_
    refine own_getfield X9 hx hby hZ hown (host := "") (Or.inl (hw _ tw_24)) Via.refl e9 (B_reach B) d8_132 rfl (fun T10 X10 e10 => ?_)
    refine own_iload X10 hx hby d8_135 rfl rfl ?_
    refine own_laload X10 hx hby hZ Q1 e10 Are (by decide) rfl d8_137 rfl ?_
    refine own_lcmp_ge X10 hx hby d8_138 d8_139 (pcY := 159) (pcN := 142) (by decide) rfl (fun (hc11 : Q1.toInt ≤ y.toInt) => ?_) (fun (hc11 : y.toInt < Q1.toInt) => ?_)
    · -- pc 138: t
      refine own_aloadN X10 hx hby d8_159 rfl rfl rfl ?_
      refine own_getfield X10 hx hby hZ hown (host := "") (Or.inl (hw _ tw_24)) Via.refl e10 (B_reach B) d8_160 rfl (fun T12 X12 e12 => ?_)
      refine own_iload X12 hx hby d8_163 rfl rfl ?_
      refine own_laload X12 hx hby hZ Q1 e12 Are (by decide) rfl d8_165 rfl ?_
      refine own_lload X12 hx hby d8_166 rfl rfl ?_
      refine own_lcmp_ge X12 hx hby d8_168 d8_169 (pcY := 185) (pcN := 172) (by decide) rfl (fun (hc13 : least.toInt ≤ Q1.toInt) => ?_) (fun (hc13 : Q1.toInt < least.toInt) => ?_)
      · -- pc 168: t
        refine own_iinc X12 hx hby d8_185 rfl (1 : Int32) rfl #[.val (.ref x), .val (.int w1), .val (.int (2 : Int32)), .val (.int col), .val (.int r), .val (.ref rr), .val (.long least), .second, .val (.int next), .val (.int (2 : Int32)), .val (.long c1), .second, .val (.long y), .second] rfl rfl ?_
        refine own_goto X12 hx hby d8_188 (pc' := 72) (by decide) ?_
        exact kt T12 _ _ Q1 least P1 next (.val (.long c1)) (.second) (.val (.long y)) (.second) X12 e12 hN B Aup Avp Aho Apr Are Adn (Or.inr ⟨_, rfl, rfl⟩) (Or.inr ⟨_, rfl, rfl⟩) ⟨Or.inr (Or.inl ⟨by have k := own_ntl hc4; rw [own_iN] at k; exact k, by omega, rfl, rfl⟩), Or.inr ⟨hc13, rfl, rfl⟩⟩
      · -- pc 168: f
        refine own_aloadN X12 hx hby d8_172 rfl rfl rfl ?_
        refine own_getfield X12 hx hby hZ hown (host := "") (Or.inl (hw _ tw_24)) Via.refl e12 (B_reach B) d8_173 rfl (fun T14 X14 e14 => ?_)
        refine own_iload X14 hx hby d8_176 rfl rfl ?_
        refine own_laload X14 hx hby hZ Q1 e14 Are (by decide) rfl d8_178 rfl ?_
        refine own_lstore X14 hx hby d8_179 rfl #[.val (.ref x), .val (.int w1), .val (.int (2 : Int32)), .val (.int col), .val (.int r), .val (.ref rr), .val (.long Q1), .second, .val (.int next), .val (.int (1 : Int32)), .val (.long c1), .second, .val (.long y), .second] rfl ?_
        refine own_iload X14 hx hby d8_181 rfl rfl ?_
        refine own_istore X14 hx hby d8_183 rfl #[.val (.ref x), .val (.int w1), .val (.int (2 : Int32)), .val (.int col), .val (.int r), .val (.ref rr), .val (.long Q1), .second, .val (.int (1 : Int32)), .val (.int (1 : Int32)), .val (.long c1), .second, .val (.long y), .second] rfl ?_
        refine own_iinc X14 hx hby d8_185 rfl (1 : Int32) rfl #[.val (.ref x), .val (.int w1), .val (.int (2 : Int32)), .val (.int col), .val (.int r), .val (.ref rr), .val (.long Q1), .second, .val (.int (1 : Int32)), .val (.int (2 : Int32)), .val (.long c1), .second, .val (.long y), .second] rfl rfl ?_
        refine own_goto X14 hx hby d8_188 (pc' := 72) (by decide) ?_
        exact kt T14 _ _ Q1 Q1 P1 (1 : Int32) (.val (.long c1)) (.second) (.val (.long y)) (.second) X14 e14 hN B Aup Avp Aho Apr Are Adn (Or.inr ⟨_, rfl, rfl⟩) (Or.inr ⟨_, rfl, rfl⟩) ⟨Or.inr (Or.inl ⟨by have k := own_ntl hc4; rw [own_iN] at k; exact k, by omega, rfl, rfl⟩), Or.inl ⟨hc13, rfl, rfl⟩⟩
    · -- pc 138: f
      refine own_aloadN X10 hx hby d8_142 rfl rfl rfl ?_
      refine own_getfield X10 hx hby hZ hown (host := "") (Or.inl (hw _ tw_24)) Via.refl e10 (B_reach B) d8_143 rfl (fun T15 X15 e15 => ?_)
      refine own_iload X15 hx hby d8_146 rfl rfl ?_
      refine own_lload X15 hx hby d8_148 rfl rfl ?_
      refine own_lastore X15 hx hby hZ y rfl e15 Are (by decide) 1 rfl (show 1 < 3 by decide) [(.long Q0), (.long y), (.long Q2)] rfl rfl hN (ge_re ord) d8_150 rfl (fun T16 h16 L16 X16 e16 W16 V16 N16 => ?_)
      refine own_aloadN X16 hx hby d8_151 rfl rfl rfl ?_
      have f17 := (own_Bw B W16 (ne_x_re ord) (ne_cs_re ord) (ne_r0_re ord) (ne_r1_re ord))
      refine own_getfield X16 hx hby hZ hown (host := "") (Or.inl (hw _ tw_22)) Via.refl e16 (B_previous f17) d8_152 rfl (fun T18 X18 e18 => ?_)
      refine own_iload X18 hx hby d8_155 rfl rfl ?_
      refine own_iloadN X18 hx hby d8_157 rfl rfl ?_
      have f19 := (Apr.other W16 (ne_pr_re ord))
      refine own_iastore X18 hx hby hZ col rfl e18 f19 (by decide) 1 rfl (show 1 < 3 by decide) [(.int P0), (.int col), (.int P2)] rfl rfl N16 (ge_pr ord) d8_158 rfl (fun T20 h20 L20 X20 e20 W20 V20 N20 => ?_)
      refine own_aloadN X20 hx hby d8_159 rfl rfl rfl ?_
      have f21 := (own_Bw f17 W20 (ne_x_pr ord) (ne_cs_pr ord) (ne_r0_pr ord) (ne_r1_pr ord))
      refine own_getfield X20 hx hby hZ hown (host := "") (Or.inl (hw _ tw_24)) Via.refl e20 (B_reach f21) d8_160 rfl (fun T22 X22 e22 => ?_)
      refine own_iload X22 hx hby d8_163 rfl rfl ?_
      have f23 := (V16.other W20 (ne_re_pr ord))
      refine own_laload X22 hx hby hZ y e22 f23 (by decide) rfl d8_165 rfl ?_
      refine own_lload X22 hx hby d8_166 rfl rfl ?_
      refine own_lcmp_ge X22 hx hby d8_168 d8_169 (pcY := 185) (pcN := 172) (by decide) rfl (fun (hc24 : least.toInt ≤ y.toInt) => ?_) (fun (hc24 : y.toInt < least.toInt) => ?_)
      · -- pc 168: t
        refine own_iinc X22 hx hby d8_185 rfl (1 : Int32) rfl #[.val (.ref x), .val (.int w1), .val (.int (2 : Int32)), .val (.int col), .val (.int r), .val (.ref rr), .val (.long least), .second, .val (.int next), .val (.int (2 : Int32)), .val (.long c1), .second, .val (.long y), .second] rfl rfl ?_
        refine own_goto X22 hx hby d8_188 (pc' := 72) (by decide) ?_
        have f25 := ((Aup.other W16 (ne_up_re ord)).other W20 (ne_up_pr ord))
        have f26 := ((Avp.other W16 (ne_vp_re ord)).other W20 (ne_vp_pr ord))
        have f27 := ((Aho.other W16 (ne_ho_re ord)).other W20 (ne_ho_pr ord))
        have f28 := ((Adn.other W16 (ne_dn_re ord)).other W20 (ne_dn_pr ord))
        exact kt T22 _ _ y least col next (.val (.long c1)) (.second) (.val (.long y)) (.second) X22 e22 N20 f21 f25 f26 f27 V20 f23 f28 (Or.inr ⟨_, rfl, rfl⟩) (Or.inr ⟨_, rfl, rfl⟩) ⟨Or.inr (Or.inr ⟨by have k := own_ntl hc4; rw [own_iN] at k; exact k, by omega, hy, rfl⟩), Or.inr ⟨hc24, rfl, rfl⟩⟩
      · -- pc 168: f
        refine own_aloadN X22 hx hby d8_172 rfl rfl rfl ?_
        refine own_getfield X22 hx hby hZ hown (host := "") (Or.inl (hw _ tw_24)) Via.refl e22 (B_reach f21) d8_173 rfl (fun T29 X29 e29 => ?_)
        refine own_iload X29 hx hby d8_176 rfl rfl ?_
        refine own_laload X29 hx hby hZ y e29 f23 (by decide) rfl d8_178 rfl ?_
        refine own_lstore X29 hx hby d8_179 rfl #[.val (.ref x), .val (.int w1), .val (.int (2 : Int32)), .val (.int col), .val (.int r), .val (.ref rr), .val (.long y), .second, .val (.int next), .val (.int (1 : Int32)), .val (.long c1), .second, .val (.long y), .second] rfl ?_
        refine own_iload X29 hx hby d8_181 rfl rfl ?_
        refine own_istore X29 hx hby d8_183 rfl #[.val (.ref x), .val (.int w1), .val (.int (2 : Int32)), .val (.int col), .val (.int r), .val (.ref rr), .val (.long y), .second, .val (.int (1 : Int32)), .val (.int (1 : Int32)), .val (.long c1), .second, .val (.long y), .second] rfl ?_
        refine own_iinc X29 hx hby d8_185 rfl (1 : Int32) rfl #[.val (.ref x), .val (.int w1), .val (.int (2 : Int32)), .val (.int col), .val (.int r), .val (.ref rr), .val (.long y), .second, .val (.int (1 : Int32)), .val (.int (2 : Int32)), .val (.long c1), .second, .val (.long y), .second] rfl rfl ?_
        refine own_goto X29 hx hby d8_188 (pc' := 72) (by decide) ?_
        have f30 := ((Aup.other W16 (ne_up_re ord)).other W20 (ne_up_pr ord))
        have f31 := ((Avp.other W16 (ne_vp_re ord)).other W20 (ne_vp_pr ord))
        have f32 := ((Aho.other W16 (ne_ho_re ord)).other W20 (ne_ho_pr ord))
        have f33 := ((Adn.other W16 (ne_dn_re ord)).other W20 (ne_dn_pr ord))
        exact kt T29 _ _ y y col (1 : Int32) (.val (.long c1)) (.second) (.val (.long y)) (.second) X29 e29 N20 f21 f30 f31 f32 V20 f23 f33 (Or.inr ⟨_, rfl, rfl⟩) (Or.inr ⟨_, rfl, rfl⟩) ⟨Or.inr (Or.inr ⟨by have k := own_ntl hc4; rw [own_iN] at k; exact k, by omega, hy, rfl⟩), Or.inl ⟨hc24, rfl, rfl⟩⟩
set_option maxRecDepth 65536 in
set_option maxHeartbeats 40000000 in
theorem scan2 {p : Program} {l : Launch} {e : Env} {R : Room} {s : State} {m : MethodId} {args : Array Value} {below : List Frame} {meth : Method} {c : Code} {Fz : Outcome → State → Prop} {Z : State} {a0 : Array Value} (hx : p.tables.exec = Jvm.exec) (hby : c.code = prog_3_method_7_code) (hml : c.maxLocals = 14) (hown : s.vm.findClass "com/example/weftwork/weftwork/algorithm/Assignment" = some m.cls) (hZ : Z.Warmed39 s.vm) (hw : ∀ d ∈ tables_1, d.before a0 Z = true) {n0 cells slots : Nat} {locs : List Loc} {T : State} {h : Heap} {x cs r0 r1 up vp ho pr re dn rr : Addr} {kc k0 k1 ku kv kh kp kr kd : ClassId} {ca cb cc cd U0 U1 U2 V0 V1 V2 Q0 Q1 Q2 least : Int64} {H0 H1 H2 P0 P1 P2 D0 D1 w1 col r next : Int32} {s10 s11 s12 s13 : Slot} (ord : OwnOrd n0 x cs r0 r1 up vp ho pr re dn) (B : OwnB Z h x cs r0 r1 up vp ho pr re dn kc k0 k1 ca cb cc cd) (Aup : Arv Z h up ku .long (3 : Int32) [(.long U0), (.long U1), (.long U2)] (.long 0)) (Avp : Arv Z h vp kv .long (3 : Int32) [(.long V0), (.long V1), (.long V2)] (.long 0)) (Aho : Arv Z h ho kh .int (3 : Int32) [(.int H0), (.int H1), (.int H2)] (.int 0)) (Apr : Arv Z h pr kp .int (3 : Int32) [(.int P0), (.int P1), (.int P2)] (.int 0)) (Are : Arv Z h re kr .long (3 : Int32) [(.long Q0), (.long Q1), (.long Q2)] (.long 0)) (Adn : Arv Z h dn kd .boolean (3 : Int32) [(.int D0), (.int D1), (.int (0 : Int32))] (.int 0)) {krr : ClassId} {c1 c2 : Int64} (Vc : Arv Z h rr krr .long (2 : Int32) [.long c1, .long c2] (.long 0)) (nrr : rr ≠ re) (nrp : rr ≠ pr) {u : Int64} (hjr : ¬ r < 0 ∧ r < (3 : Int32)) (hur : ([.long U0, .long U1, .long U2] : List Value).getD r.toNatClampNeg (.long 0) = .long u) (hcb : OwnCost c2) (hub : OwnBd u) (hvb : OwnBd V2) (hs10 : OwnPair s10 s11) (hs12 : OwnPair s12 s13) (hN : Fr n0 locs) (X0 : Stand p l e R s m args below meth c T locs cells slots) (e0 : T.heap = h)
    (kt : ∀ (T' : State) (h' : Heap) (L' : List Loc) (Q' g' : Int64) (P' n' : Int32) (t10 t11 t12 t13 : Slot), Stand p l e R s m args below meth c T' L' cells slots → T'.heap = h' → Fr n0 L' → OwnB Z h' x cs r0 r1 up vp ho pr re dn kc k0 k1 ca cb cc cd → Arv Z h' up ku .long (3 : Int32) [(.long U0), (.long U1), (.long U2)] (.long 0) → Arv Z h' vp kv .long (3 : Int32) [(.long V0), (.long V1), (.long V2)] (.long 0) → Arv Z h' ho kh .int (3 : Int32) [(.int H0), (.int H1), (.int H2)] (.int 0) → Arv Z h' pr kp .int (3 : Int32) [(.int P0), (.int P1), (.int P')] (.int 0) → Arv Z h' re kr .long (3 : Int32) [(.long Q0), (.long Q1), (.long Q')] (.long 0) → Arv Z h' dn kd .boolean (3 : Int32) [(.int D0), (.int D1), (.int (0 : Int32))] (.int 0) → OwnPair t10 t11 → OwnPair t12 t13 → OwnScan c2 u V2 Q2 least Q' g' P2 next col (2 : Int32) P' n' → Ends p.tables e below Fz (T'.setTop (mkF m 72 #[.val (.ref x), .val (.int w1), .val (.int (2 : Int32)), .val (.int col), .val (.int r), .val (.ref rr), .val (.long g'), .second, .val (.int n'), .val (.int (3 : Int32)), t10, t11, t12, t13] []))) :
    Ends p.tables e below Fz (T.setTop (mkF m 72 #[.val (.ref x), .val (.int w1), .val (.int (2 : Int32)), .val (.int col), .val (.int r), .val (.ref rr), .val (.long least), .second, .val (.int next), .val (.int (2 : Int32)), s10, s11, s12, s13] [])) := by
  refine own_iload X0 hx hby d8_72 rfl rfl ?_
  refine own_iloadN X0 hx hby d8_74 rfl rfl ?_
  refine own_icmp_gt X0 hx hby d8_75 (pcY := 191) (pcN := 78) (by decide) rfl (fun (hc34 : 2 < 2) => False.elim (by exact absurd hc34 (by decide))) (fun (hc34 : 2 ≤ 2) => ?_)
  refine own_aloadN X0 hx hby d8_78 rfl rfl rfl ?_
  refine own_getfield X0 hx hby hZ hown (host := "") (Or.inl (hw _ tw_27)) Via.refl e0 (B_done B) d8_79 rfl (fun T35 X35 e35 => ?_)
  refine own_iload X35 hx hby d8_82 rfl rfl ?_
  refine own_zaload X35 hx hby hZ (0 : Int32) e35 Adn (by decide) rfl d8_84 rfl ?_
  refine own_if_eq X35 hx hby d8_85 (pcY := 91) (pcN := 88) (by decide) rfl (fun (hc36 : (0 : Int32) = (0 : Int32)) => ?_) (fun (hc36 : ¬ (0 : Int32) = (0 : Int32)) => False.elim (by exact absurd hc36 (by decide)))
  refine own_aload X35 hx hby d8_91 rfl rfl rfl ?_
  refine own_iload X35 hx hby d8_93 rfl rfl ?_
  refine own_iconst X35 hx hby d8_95 rfl (1 : Int32) rfl ?_
  refine own_isub X35 hx hby d8_96 rfl ?_
  show Ends p.tables e below _ (T35.setTop (mkF m 97 #[.val (.ref x), .val (.int w1), .val (.int (2 : Int32)), .val (.int col), .val (.int r), .val (.ref rr), .val (.long least), .second, .val (.int next), .val (.int (2 : Int32)), s10, s11, s12, s13] [(.int (1 : Int32)), (.ref rr)]))
  refine own_laload X35 hx hby hZ c2 e35 Vc (by decide) rfl d8_97 rfl ?_
  refine own_lstore X35 hx hby d8_98 rfl #[.val (.ref x), .val (.int w1), .val (.int (2 : Int32)), .val (.int col), .val (.int r), .val (.ref rr), .val (.long least), .second, .val (.int next), .val (.int (2 : Int32)), .val (.long c2), .second, s12, s13] (own_st10 hs10) ?_
  refine own_lload X35 hx hby d8_100 rfl rfl ?_
  refine own_ldc2J X35 hx hby hZ hown (hw _ tw_53) d8_102 rfl ?_
  refine own_lcmp_eq X35 hx hby d8_105 d8_106 (pcY := 159) (pcN := 109) (by decide) rfl (fun (hc37 : c2 = (9223372036854775807 : Int64)) => ?_) (fun (hc37 : ¬ c2 = (9223372036854775807 : Int64)) => ?_)
  · -- pc 105: t
    refine own_aloadN X35 hx hby d8_159 rfl rfl rfl ?_
    refine own_getfield X35 hx hby hZ hown (host := "") (Or.inl (hw _ tw_24)) Via.refl e35 (B_reach B) d8_160 rfl (fun T38 X38 e38 => ?_)
    refine own_iload X38 hx hby d8_163 rfl rfl ?_
    refine own_laload X38 hx hby hZ Q2 e38 Are (by decide) rfl d8_165 rfl ?_
    refine own_lload X38 hx hby d8_166 rfl rfl ?_
    refine own_lcmp_ge X38 hx hby d8_168 d8_169 (pcY := 185) (pcN := 172) (by decide) rfl (fun (hc39 : least.toInt ≤ Q2.toInt) => ?_) (fun (hc39 : Q2.toInt < least.toInt) => ?_)
    · -- pc 168: t
      refine own_iinc X38 hx hby d8_185 rfl (1 : Int32) rfl #[.val (.ref x), .val (.int w1), .val (.int (2 : Int32)), .val (.int col), .val (.int r), .val (.ref rr), .val (.long least), .second, .val (.int next), .val (.int (3 : Int32)), .val (.long c2), .second, s12, s13] rfl rfl ?_
      refine own_goto X38 hx hby d8_188 (pc' := 72) (by decide) ?_
      exact kt T38 _ _ Q2 least P2 next (.val (.long c2)) (.second) (s12) (s13) X38 e38 hN B Aup Avp Aho Apr Are Adn (Or.inr ⟨_, rfl, rfl⟩) hs12 ⟨Or.inl ⟨by rw [hc37]; exact own_iN, rfl, rfl⟩, Or.inr ⟨hc39, rfl, rfl⟩⟩
    · -- pc 168: f
      refine own_aloadN X38 hx hby d8_172 rfl rfl rfl ?_
      refine own_getfield X38 hx hby hZ hown (host := "") (Or.inl (hw _ tw_24)) Via.refl e38 (B_reach B) d8_173 rfl (fun T40 X40 e40 => ?_)
      refine own_iload X40 hx hby d8_176 rfl rfl ?_
      refine own_laload X40 hx hby hZ Q2 e40 Are (by decide) rfl d8_178 rfl ?_
      refine own_lstore X40 hx hby d8_179 rfl #[.val (.ref x), .val (.int w1), .val (.int (2 : Int32)), .val (.int col), .val (.int r), .val (.ref rr), .val (.long Q2), .second, .val (.int next), .val (.int (2 : Int32)), .val (.long c2), .second, s12, s13] rfl ?_
      refine own_iload X40 hx hby d8_181 rfl rfl ?_
      refine own_istore X40 hx hby d8_183 rfl #[.val (.ref x), .val (.int w1), .val (.int (2 : Int32)), .val (.int col), .val (.int r), .val (.ref rr), .val (.long Q2), .second, .val (.int (2 : Int32)), .val (.int (2 : Int32)), .val (.long c2), .second, s12, s13] rfl ?_
      refine own_iinc X40 hx hby d8_185 rfl (1 : Int32) rfl #[.val (.ref x), .val (.int w1), .val (.int (2 : Int32)), .val (.int col), .val (.int r), .val (.ref rr), .val (.long Q2), .second, .val (.int (2 : Int32)), .val (.int (3 : Int32)), .val (.long c2), .second, s12, s13] rfl rfl ?_
      refine own_goto X40 hx hby d8_188 (pc' := 72) (by decide) ?_
      exact kt T40 _ _ Q2 Q2 P2 (2 : Int32) (.val (.long c2)) (.second) (s12) (s13) X40 e40 hN B Aup Avp Aho Apr Are Adn (Or.inr ⟨_, rfl, rfl⟩) hs12 ⟨Or.inl ⟨by rw [hc37]; exact own_iN, rfl, rfl⟩, Or.inl ⟨hc39, rfl, rfl⟩⟩
  · -- pc 105: f
    refine own_lload X35 hx hby d8_109 rfl rfl ?_
    refine own_aloadN X35 hx hby d8_111 rfl rfl rfl ?_
    refine own_getfield X35 hx hby hZ hown (host := "") (Or.inl (hw _ tw_15)) Via.refl e35 (B_rowPotential B) d8_112 rfl (fun T41 X41 e41 => ?_)
    refine own_iload X41 hx hby d8_115 rfl rfl ?_
    refine own_laload X41 hx hby hZ u e41 Aup hjr hur d8_117 rfl ?_
    refine own_lsub X41 hx hby d8_118 rfl ?_
    refine own_aloadN X41 hx hby d8_119 rfl rfl rfl ?_
    refine own_getfield X41 hx hby hZ hown (host := "") (Or.inl (hw _ tw_17)) Via.refl e41 (B_columnPotential B) d8_120 rfl (fun T42 X42 e42 => ?_)
    refine own_iload X42 hx hby d8_123 rfl rfl ?_
    refine own_laload X42 hx hby hZ V2 e42 Avp (by decide) rfl d8_125 rfl ?_
    refine own_lsub X42 hx hby d8_126 rfl ?_
    generalize hg : ((c2 - u) - V2) = y
    have hy : y.toInt = c2.toInt - u.toInt - V2.toInt := by rw [← hg]; exact own_sub2 (own_costn hcb hc37) hub hvb
    show Ends p.tables e below _ (T42.setTop (mkF m 127 #[.val (.ref x), .val (.int w1), .val (.int (2 : Int32)), .val (.int col), .val (.int r), .val (.ref rr), .val (.long least), .second, .val (.int next), .val (.int (2 : Int32)), .val (.long c2), .second, s12, s13] [(.long y)]))
    refine own_lstore X42 hx hby d8_127 rfl #[.val (.ref x), .val (.int w1), .val (.int (2 : Int32)), .val (.int col), .val (.int r), .val (.ref rr), .val (.long least), .second, .val (.int next), .val (.int (2 : Int32)), .val (.long c2), .second, .val (.long y), .second] (own_st12 hs12) ?_
    refine own_lload X42 hx hby d8_129 rfl rfl ?_
    refine own_aloadN X42 hx hby d8_131 rfl rfl rfl ?_
    refine own_getfield X42 hx hby hZ hown (host := "") (Or.inl (hw _ tw_24)) Via.refl e42 (B_reach B) d8_132 rfl (fun T43 X43 e43 => ?_)
    refine own_iload X43 hx hby d8_135 rfl rfl ?_
    refine own_laload X43 hx hby hZ Q2 e43 Are (by decide) rfl d8_137 rfl ?_
    refine own_lcmp_ge X43 hx hby d8_138 d8_139 (pcY := 159) (pcN := 142) (by decide) rfl (fun (hc44 : Q2.toInt ≤ y.toInt) => ?_) (fun (hc44 : y.toInt < Q2.toInt) => ?_)
    · -- pc 138: t
      refine own_aloadN X43 hx hby d8_159 rfl rfl rfl ?_
      refine own_getfield X43 hx hby hZ hown (host := "") (Or.inl (hw _ tw_24)) Via.refl e43 (B_reach B) d8_160 rfl (fun T45 X45 e45 => ?_)
      refine own_iload X45 hx hby d8_163 rfl rfl ?_
      refine own_laload X45 hx hby hZ Q2 e45 Are (by decide) rfl d8_165 rfl ?_
      refine own_lload X45 hx hby d8_166 rfl rfl ?_
      refine own_lcmp_ge X45 hx hby d8_168 d8_169 (pcY := 185) (pcN := 172) (by decide) rfl (fun (hc46 : least.toInt ≤ Q2.toInt) => ?_) (fun (hc46 : Q2.toInt < least.toInt) => ?_)
      · -- pc 168: t
        refine own_iinc X45 hx hby d8_185 rfl (1 : Int32) rfl #[.val (.ref x), .val (.int w1), .val (.int (2 : Int32)), .val (.int col), .val (.int r), .val (.ref rr), .val (.long least), .second, .val (.int next), .val (.int (3 : Int32)), .val (.long c2), .second, .val (.long y), .second] rfl rfl ?_
        refine own_goto X45 hx hby d8_188 (pc' := 72) (by decide) ?_
        exact kt T45 _ _ Q2 least P2 next (.val (.long c2)) (.second) (.val (.long y)) (.second) X45 e45 hN B Aup Avp Aho Apr Are Adn (Or.inr ⟨_, rfl, rfl⟩) (Or.inr ⟨_, rfl, rfl⟩) ⟨Or.inr (Or.inl ⟨by have k := own_ntl hc37; rw [own_iN] at k; exact k, by omega, rfl, rfl⟩), Or.inr ⟨hc46, rfl, rfl⟩⟩
      · -- pc 168: f
        refine own_aloadN X45 hx hby d8_172 rfl rfl rfl ?_
        refine own_getfield X45 hx hby hZ hown (host := "") (Or.inl (hw _ tw_24)) Via.refl e45 (B_reach B) d8_173 rfl (fun T47 X47 e47 => ?_)
        refine own_iload X47 hx hby d8_176 rfl rfl ?_
        refine own_laload X47 hx hby hZ Q2 e47 Are (by decide) rfl d8_178 rfl ?_
        refine own_lstore X47 hx hby d8_179 rfl #[.val (.ref x), .val (.int w1), .val (.int (2 : Int32)), .val (.int col), .val (.int r), .val (.ref rr), .val (.long Q2), .second, .val (.int next), .val (.int (2 : Int32)), .val (.long c2), .second, .val (.long y), .second] rfl ?_
        refine own_iload X47 hx hby d8_181 rfl rfl ?_
        refine own_istore X47 hx hby d8_183 rfl #[.val (.ref x), .val (.int w1), .val (.int (2 : Int32)), .val (.int col), .val (.int r), .val (.ref rr), .val (.long Q2), .second, .val (.int (2 : Int32)), .val (.int (2 : Int32)), .val (.long c2), .second, .val (.long y), .second] rfl ?_
        refine own_iinc X47 hx hby d8_185 rfl (1 : Int32) rfl #[.val (.ref x), .val (.int w1), .val (.int (2 : Int32)), .val (.int col), .val (.int r), .val (.ref rr), .val (.long Q2), .second, .val (.int (2 : Int32)), .val (.int (3 : Int32)), .val (.long c2), .second, .val (.long y), .second] rfl rfl ?_
        refine own_goto X47 hx hby d8_188 (pc' := 72) (by decide) ?_
        exact kt T47 _ _ Q2 Q2 P2 (2 : Int32) (.val (.long c2)) (.second) (.val (.long y)) (.second) X47 e47 hN B Aup Avp Aho Apr Are Adn (Or.inr ⟨_, rfl, rfl⟩) (Or.inr ⟨_, rfl, rfl⟩) ⟨Or.inr (Or.inl ⟨by have k := own_ntl hc37; rw [own_iN] at k; exact k, by omega, rfl, rfl⟩), Or.inl ⟨hc46, rfl, rfl⟩⟩
    · -- pc 138: f
      refine own_aloadN X43 hx hby d8_142 rfl rfl rfl ?_
      refine own_getfield X43 hx hby hZ hown (host := "") (Or.inl (hw _ tw_24)) Via.refl e43 (B_reach B) d8_143 rfl (fun T48 X48 e48 => ?_)
      refine own_iload X48 hx hby d8_146 rfl rfl ?_
      refine own_lload X48 hx hby d8_148 rfl rfl ?_
      refine own_lastore X48 hx hby hZ y rfl e48 Are (by decide) 2 rfl (show 2 < 3 by decide) [(.long Q0), (.long Q1), (.long y)] rfl rfl hN (ge_re ord) d8_150 rfl (fun T49 h49 L49 X49 e49 W49 V49 N49 => ?_)
      refine own_aloadN X49 hx hby d8_151 rfl rfl rfl ?_
      have f50 := (own_Bw B W49 (ne_x_re ord) (ne_cs_re ord) (ne_r0_re ord) (ne_r1_re ord))
      refine own_getfield X49 hx hby hZ hown (host := "") (Or.inl (hw _ tw_22)) Via.refl e49 (B_previous f50) d8_152 rfl (fun T51 X51 e51 => ?_)
      refine own_iload X51 hx hby d8_155 rfl rfl ?_
      refine own_iloadN X51 hx hby d8_157 rfl rfl ?_
      have f52 := (Apr.other W49 (ne_pr_re ord))
      refine own_iastore X51 hx hby hZ col rfl e51 f52 (by decide) 2 rfl (show 2 < 3 by decide) [(.int P0), (.int P1), (.int col)] rfl rfl N49 (ge_pr ord) d8_158 rfl (fun T53 h53 L53 X53 e53 W53 V53 N53 => ?_)
      refine own_aloadN X53 hx hby d8_159 rfl rfl rfl ?_
      have f54 := (own_Bw f50 W53 (ne_x_pr ord) (ne_cs_pr ord) (ne_r0_pr ord) (ne_r1_pr ord))
      refine own_getfield X53 hx hby hZ hown (host := "") (Or.inl (hw _ tw_24)) Via.refl e53 (B_reach f54) d8_160 rfl (fun T55 X55 e55 => ?_)
      refine own_iload X55 hx hby d8_163 rfl rfl ?_
      have f56 := (V49.other W53 (ne_re_pr ord))
      refine own_laload X55 hx hby hZ y e55 f56 (by decide) rfl d8_165 rfl ?_
      refine own_lload X55 hx hby d8_166 rfl rfl ?_
      refine own_lcmp_ge X55 hx hby d8_168 d8_169 (pcY := 185) (pcN := 172) (by decide) rfl (fun (hc57 : least.toInt ≤ y.toInt) => ?_) (fun (hc57 : y.toInt < least.toInt) => ?_)
      · -- pc 168: t
        refine own_iinc X55 hx hby d8_185 rfl (1 : Int32) rfl #[.val (.ref x), .val (.int w1), .val (.int (2 : Int32)), .val (.int col), .val (.int r), .val (.ref rr), .val (.long least), .second, .val (.int next), .val (.int (3 : Int32)), .val (.long c2), .second, .val (.long y), .second] rfl rfl ?_
        refine own_goto X55 hx hby d8_188 (pc' := 72) (by decide) ?_
        have f58 := ((Aup.other W49 (ne_up_re ord)).other W53 (ne_up_pr ord))
        have f59 := ((Avp.other W49 (ne_vp_re ord)).other W53 (ne_vp_pr ord))
        have f60 := ((Aho.other W49 (ne_ho_re ord)).other W53 (ne_ho_pr ord))
        have f61 := ((Adn.other W49 (ne_dn_re ord)).other W53 (ne_dn_pr ord))
        exact kt T55 _ _ y least col next (.val (.long c2)) (.second) (.val (.long y)) (.second) X55 e55 N53 f54 f58 f59 f60 V53 f56 f61 (Or.inr ⟨_, rfl, rfl⟩) (Or.inr ⟨_, rfl, rfl⟩) ⟨Or.inr (Or.inr ⟨by have k := own_ntl hc37; rw [own_iN] at k; exact k, by omega, hy, rfl⟩), Or.inr ⟨hc57, rfl, rfl⟩⟩
      · -- pc 168: f
        refine own_aloadN X55 hx hby d8_172 rfl rfl rfl ?_
        refine own_getfield X55 hx hby hZ hown (host := "") (Or.inl (hw _ tw_24)) Via.refl e55 (B_reach f54) d8_173 rfl (fun T62 X62 e62 => ?_)
        refine own_iload X62 hx hby d8_176 rfl rfl ?_
        refine own_laload X62 hx hby hZ y e62 f56 (by decide) rfl d8_178 rfl ?_
        refine own_lstore X62 hx hby d8_179 rfl #[.val (.ref x), .val (.int w1), .val (.int (2 : Int32)), .val (.int col), .val (.int r), .val (.ref rr), .val (.long y), .second, .val (.int next), .val (.int (2 : Int32)), .val (.long c2), .second, .val (.long y), .second] rfl ?_
        refine own_iload X62 hx hby d8_181 rfl rfl ?_
        refine own_istore X62 hx hby d8_183 rfl #[.val (.ref x), .val (.int w1), .val (.int (2 : Int32)), .val (.int col), .val (.int r), .val (.ref rr), .val (.long y), .second, .val (.int (2 : Int32)), .val (.int (2 : Int32)), .val (.long c2), .second, .val (.long y), .second] rfl ?_
        refine own_iinc X62 hx hby d8_185 rfl (1 : Int32) rfl #[.val (.ref x), .val (.int w1), .val (.int (2 : Int32)), .val (.int col), .val (.int r), .val (.ref rr), .val (.long y), .second, .val (.int (2 : Int32)), .val (.int (3 : Int32)), .val (.long c2), .second, .val (.long y), .second] rfl rfl ?_
        refine own_goto X62 hx hby d8_188 (pc' := 72) (by decide) ?_
        have f63 := ((Aup.other W49 (ne_up_re ord)).other W53 (ne_up_pr ord))
        have f64 := ((Avp.other W49 (ne_vp_re ord)).other W53 (ne_vp_pr ord))
        have f65 := ((Aho.other W49 (ne_ho_re ord)).other W53 (ne_ho_pr ord))
        have f66 := ((Adn.other W49 (ne_dn_re ord)).other W53 (ne_dn_pr ord))
        exact kt T62 _ _ y y col (2 : Int32) (.val (.long c2)) (.second) (.val (.long y)) (.second) X62 e62 N53 f54 f63 f64 f65 V53 f56 f66 (Or.inr ⟨_, rfl, rfl⟩) (Or.inr ⟨_, rfl, rfl⟩) ⟨Or.inr (Or.inr ⟨by have k := own_ntl hc37; rw [own_iN] at k; exact k, by omega, hy, rfl⟩), Or.inl ⟨hc57, rfl, rfl⟩⟩
set_option maxRecDepth 65536 in
set_option maxHeartbeats 40000000 in
theorem upd0_1 {p : Program} {l : Launch} {e : Env} {R : Room} {s : State} {m : MethodId} {args : Array Value} {below : List Frame} {meth : Method} {c : Code} {Fz : Outcome → State → Prop} {Z : State} {a0 : Array Value} (hx : p.tables.exec = Jvm.exec) (hby : c.code = prog_3_method_7_code) (hml : c.maxLocals = 14) (hown : s.vm.findClass "com/example/weftwork/weftwork/algorithm/Assignment" = some m.cls) (hZ : Z.Warmed39 s.vm) (hw : ∀ d ∈ tables_1, d.before a0 Z = true) {n0 cells slots : Nat} {locs : List Loc} {T : State} {h : Heap} {x cs r0 r1 up vp ho pr re dn rr : Addr} {kc k0 k1 ku kv kh kp kr kd : ClassId} {ca cb cc cd U0 U1 U2 V0 V1 V2 Q0 Q1 Q2 least : Int64} {H1 H2 P0 P1 P2 D1 D2 w1 col r next : Int32} {s10 s11 s12 s13 : Slot} (ord : OwnOrd n0 x cs r0 r1 up vp ho pr re dn) (B : OwnB Z h x cs r0 r1 up vp ho pr re dn kc k0 k1 ca cb cc cd) (Aup : Arv Z h up ku .long (3 : Int32) [(.long U0), (.long U1), (.long U2)] (.long 0)) (Avp : Arv Z h vp kv .long (3 : Int32) [(.long V0), (.long V1), (.long V2)] (.long 0)) (Aho : Arv Z h ho kh .int (3 : Int32) [(.int (1 : Int32)), (.int H1), (.int H2)] (.int 0)) (Apr : Arv Z h pr kp .int (3 : Int32) [(.int P0), (.int P1), (.int P2)] (.int 0)) (Are : Arv Z h re kr .long (3 : Int32) [(.long Q0), (.long Q1), (.long Q2)] (.long 0)) (Adn : Arv Z h dn kd .boolean (3 : Int32) [(.int (1 : Int32)), (.int D1), (.int D2)] (.int 0)) (hU : OwnBd U1) (hV : OwnBd V0) (hd : 0 ≤ least.toInt ∧ least.toInt ≤ 1152921504606846976) (hN : Fr n0 locs) (X0 : Stand p l e R s m args below meth c T locs cells slots) (e0 : T.heap = h)
    (kt : ∀ (T' : State) (h' : Heap) (L' : List Loc) (U' V' : Int64), Stand p l e R s m args below meth c T' L' cells slots → T'.heap = h' → Fr n0 L' → OwnB Z h' x cs r0 r1 up vp ho pr re dn kc k0 k1 ca cb cc cd → Arv Z h' up ku .long (3 : Int32) [(.long U0), (.long U'), (.long U2)] (.long 0) → Arv Z h' vp kv .long (3 : Int32) [(.long V'), (.long V1), (.long V2)] (.long 0) → Arv Z h' ho kh .int (3 : Int32) [(.int (1 : Int32)), (.int H1), (.int H2)] (.int 0) → Arv Z h' pr kp .int (3 : Int32) [(.int P0), (.int P1), (.int P2)] (.int 0) → Arv Z h' re kr .long (3 : Int32) [(.long Q0), (.long Q1), (.long Q2)] (.long 0) → Arv Z h' dn kd .boolean (3 : Int32) [(.int (1 : Int32)), (.int D1), (.int D2)] (.int 0) → U'.toInt = U1.toInt + least.toInt → V'.toInt = V0.toInt - least.toInt → Ends p.tables e below Fz (T'.setTop (mkF m 201 #[.val (.ref x), .val (.int w1), .val (.int (2 : Int32)), .val (.int col), .val (.int r), .val (.ref rr), .val (.long least), .second, .val (.int next), .val (.int (1 : Int32)), s10, s11, s12, s13] []))) :
    Ends p.tables e below Fz (T.setTop (mkF m 201 #[.val (.ref x), .val (.int w1), .val (.int (2 : Int32)), .val (.int col), .val (.int r), .val (.ref rr), .val (.long least), .second, .val (.int next), .val (.int (0 : Int32)), s10, s11, s12, s13] [])) := by
  refine own_iload X0 hx hby d8_201 rfl rfl ?_
  refine own_iloadN X0 hx hby d8_203 rfl rfl ?_
  refine own_icmp_gt X0 hx hby d8_204 (pcY := 281) (pcN := 207) (by decide) rfl (fun (hc67 : 2 < 0) => False.elim (by exact absurd hc67 (by decide))) (fun (hc67 : 0 ≤ 2) => ?_)
  refine own_aloadN X0 hx hby d8_207 rfl rfl rfl ?_
  refine own_getfield X0 hx hby hZ hown (host := "") (Or.inl (hw _ tw_27)) Via.refl e0 (B_done B) d8_208 rfl (fun T68 X68 e68 => ?_)
  refine own_iload X68 hx hby d8_211 rfl rfl ?_
  refine own_zaload X68 hx hby hZ (1 : Int32) e68 Adn (by decide) rfl d8_213 rfl ?_
  refine own_if_eq X68 hx hby d8_214 (pcY := 249) (pcN := 217) (by decide) rfl (fun (hc69 : (1 : Int32) = (0 : Int32)) => False.elim (by exact absurd hc69 (by decide))) (fun (hc69 : ¬ (1 : Int32) = (0 : Int32)) => ?_)
  refine own_aloadN X68 hx hby d8_217 rfl rfl rfl ?_
  refine own_getfield X68 hx hby hZ hown (host := "") (Or.inl (hw _ tw_15)) Via.refl e68 (B_rowPotential B) d8_218 rfl (fun T70 X70 e70 => ?_)
  refine own_aloadN X70 hx hby d8_221 rfl rfl rfl ?_
  refine own_getfield X70 hx hby hZ hown (host := "") (Or.inl (hw _ tw_20)) Via.refl e70 (B_holder B) d8_222 rfl (fun T71 X71 e71 => ?_)
  refine own_iload X71 hx hby d8_225 rfl rfl ?_
  refine own_iaload X71 hx hby hZ (1 : Int32) e71 Aho (by decide) rfl d8_227 rfl ?_
  refine own_dup2 X71 hx hby d8_228 rfl rfl rfl ?_
  refine own_laload X71 hx hby hZ U1 e71 Aup (by decide) rfl d8_229 rfl ?_
  refine own_lload X71 hx hby d8_230 rfl rfl ?_
  refine own_ladd X71 hx hby d8_232 rfl ?_
  generalize hgy1 : (U1 + least) = y1
  have hy1 := own_addd hU hd
  rw [hgy1] at hy1
  show Ends p.tables e below _ (T71.setTop (mkF m 233 #[.val (.ref x), .val (.int w1), .val (.int (2 : Int32)), .val (.int col), .val (.int r), .val (.ref rr), .val (.long least), .second, .val (.int next), .val (.int (0 : Int32)), s10, s11, s12, s13] [(.long y1), (.int (1 : Int32)), (.ref up)]))
  refine own_lastore X71 hx hby hZ y1 rfl e71 Aup (by decide) 1 rfl (show 1 < 3 by decide) [(.long U0), (.long y1), (.long U2)] rfl rfl hN (ge_up ord) d8_233 rfl (fun T72 h72 L72 X72 e72 W72 V72 N72 => ?_)
  refine own_aloadN X72 hx hby d8_234 rfl rfl rfl ?_
  have f73 := (own_Bw B W72 (ne_x_up ord) (ne_cs_up ord) (ne_r0_up ord) (ne_r1_up ord))
  refine own_getfield X72 hx hby hZ hown (host := "") (Or.inl (hw _ tw_17)) Via.refl e72 (B_columnPotential f73) d8_235 rfl (fun T74 X74 e74 => ?_)
  refine own_iload X74 hx hby d8_238 rfl rfl ?_
  refine own_dup2 X74 hx hby d8_240 rfl rfl rfl ?_
  have f75 := (Avp.other W72 (ne_vp_up ord))
  refine own_laload X74 hx hby hZ V0 e74 f75 (by decide) rfl d8_241 rfl ?_
  refine own_lload X74 hx hby d8_242 rfl rfl ?_
  refine own_lsub X74 hx hby d8_244 rfl ?_
  generalize hgy2 : (V0 - least) = y2
  have hy2 := own_subd hV hd
  rw [hgy2] at hy2
  show Ends p.tables e below _ (T74.setTop (mkF m 245 #[.val (.ref x), .val (.int w1), .val (.int (2 : Int32)), .val (.int col), .val (.int r), .val (.ref rr), .val (.long least), .second, .val (.int next), .val (.int (0 : Int32)), s10, s11, s12, s13] [(.long y2), (.int (0 : Int32)), (.ref vp)]))
  refine own_lastore X74 hx hby hZ y2 rfl e74 f75 (by decide) 0 rfl (show 0 < 3 by decide) [(.long y2), (.long V1), (.long V2)] rfl rfl N72 (ge_vp ord) d8_245 rfl (fun T76 h76 L76 X76 e76 W76 V76 N76 => ?_)
  refine own_goto X76 hx hby d8_246 (pc' := 275) (by decide) ?_
  refine own_iinc X76 hx hby d8_275 rfl (1 : Int32) rfl #[.val (.ref x), .val (.int w1), .val (.int (2 : Int32)), .val (.int col), .val (.int r), .val (.ref rr), .val (.long least), .second, .val (.int next), .val (.int (1 : Int32)), s10, s11, s12, s13] rfl rfl ?_
  refine own_goto X76 hx hby d8_278 (pc' := 201) (by decide) ?_
  have f77 := (own_Bw f73 W76 (ne_x_vp ord) (ne_cs_vp ord) (ne_r0_vp ord) (ne_r1_vp ord))
  have f78 := (V72.other W76 (ne_up_vp ord))
  have f79 := ((Aho.other W72 (ne_ho_up ord)).other W76 (ne_ho_vp ord))
  have f80 := ((Apr.other W72 (ne_pr_up ord)).other W76 (ne_pr_vp ord))
  have f81 := ((Are.other W72 (ne_re_up ord)).other W76 (ne_re_vp ord))
  have f82 := ((Adn.other W72 (ne_dn_up ord)).other W76 (ne_dn_vp ord))
  exact kt T76 _ _ y1 y2 X76 e76 N76 f77 f78 V76 f79 f80 f81 f82 hy1 hy2
set_option maxRecDepth 65536 in
set_option maxHeartbeats 40000000 in
theorem upd0_2 {p : Program} {l : Launch} {e : Env} {R : Room} {s : State} {m : MethodId} {args : Array Value} {below : List Frame} {meth : Method} {c : Code} {Fz : Outcome → State → Prop} {Z : State} {a0 : Array Value} (hx : p.tables.exec = Jvm.exec) (hby : c.code = prog_3_method_7_code) (hml : c.maxLocals = 14) (hown : s.vm.findClass "com/example/weftwork/weftwork/algorithm/Assignment" = some m.cls) (hZ : Z.Warmed39 s.vm) (hw : ∀ d ∈ tables_1, d.before a0 Z = true) {n0 cells slots : Nat} {locs : List Loc} {T : State} {h : Heap} {x cs r0 r1 up vp ho pr re dn rr : Addr} {kc k0 k1 ku kv kh kp kr kd : ClassId} {ca cb cc cd U0 U1 U2 V0 V1 V2 Q0 Q1 Q2 least : Int64} {H1 H2 P0 P1 P2 D1 D2 w1 col r next : Int32} {s10 s11 s12 s13 : Slot} (ord : OwnOrd n0 x cs r0 r1 up vp ho pr re dn) (B : OwnB Z h x cs r0 r1 up vp ho pr re dn kc k0 k1 ca cb cc cd) (Aup : Arv Z h up ku .long (3 : Int32) [(.long U0), (.long U1), (.long U2)] (.long 0)) (Avp : Arv Z h vp kv .long (3 : Int32) [(.long V0), (.long V1), (.long V2)] (.long 0)) (Aho : Arv Z h ho kh .int (3 : Int32) [(.int (2 : Int32)), (.int H1), (.int H2)] (.int 0)) (Apr : Arv Z h pr kp .int (3 : Int32) [(.int P0), (.int P1), (.int P2)] (.int 0)) (Are : Arv Z h re kr .long (3 : Int32) [(.long Q0), (.long Q1), (.long Q2)] (.long 0)) (Adn : Arv Z h dn kd .boolean (3 : Int32) [(.int (1 : Int32)), (.int D1), (.int D2)] (.int 0)) (hU : OwnBd U2) (hV : OwnBd V0) (hd : 0 ≤ least.toInt ∧ least.toInt ≤ 1152921504606846976) (hN : Fr n0 locs) (X0 : Stand p l e R s m args below meth c T locs cells slots) (e0 : T.heap = h)
    (kt : ∀ (T' : State) (h' : Heap) (L' : List Loc) (U' V' : Int64), Stand p l e R s m args below meth c T' L' cells slots → T'.heap = h' → Fr n0 L' → OwnB Z h' x cs r0 r1 up vp ho pr re dn kc k0 k1 ca cb cc cd → Arv Z h' up ku .long (3 : Int32) [(.long U0), (.long U1), (.long U')] (.long 0) → Arv Z h' vp kv .long (3 : Int32) [(.long V'), (.long V1), (.long V2)] (.long 0) → Arv Z h' ho kh .int (3 : Int32) [(.int (2 : Int32)), (.int H1), (.int H2)] (.int 0) → Arv Z h' pr kp .int (3 : Int32) [(.int P0), (.int P1), (.int P2)] (.int 0) → Arv Z h' re kr .long (3 : Int32) [(.long Q0), (.long Q1), (.long Q2)] (.long 0) → Arv Z h' dn kd .boolean (3 : Int32) [(.int (1 : Int32)), (.int D1), (.int D2)] (.int 0) → U'.toInt = U2.toInt + least.toInt → V'.toInt = V0.toInt - least.toInt → Ends p.tables e below Fz (T'.setTop (mkF m 201 #[.val (.ref x), .val (.int w1), .val (.int (2 : Int32)), .val (.int col), .val (.int r), .val (.ref rr), .val (.long least), .second, .val (.int next), .val (.int (1 : Int32)), s10, s11, s12, s13] []))) :
    Ends p.tables e below Fz (T.setTop (mkF m 201 #[.val (.ref x), .val (.int w1), .val (.int (2 : Int32)), .val (.int col), .val (.int r), .val (.ref rr), .val (.long least), .second, .val (.int next), .val (.int (0 : Int32)), s10, s11, s12, s13] [])) := by
  refine own_iload X0 hx hby d8_201 rfl rfl ?_
  refine own_iloadN X0 hx hby d8_203 rfl rfl ?_
  refine own_icmp_gt X0 hx hby d8_204 (pcY := 281) (pcN := 207) (by decide) rfl (fun (hc83 : 2 < 0) => False.elim (by exact absurd hc83 (by decide))) (fun (hc83 : 0 ≤ 2) => ?_)
  refine own_aloadN X0 hx hby d8_207 rfl rfl rfl ?_
  refine own_getfield X0 hx hby hZ hown (host := "") (Or.inl (hw _ tw_27)) Via.refl e0 (B_done B) d8_208 rfl (fun T84 X84 e84 => ?_)
  refine own_iload X84 hx hby d8_211 rfl rfl ?_
  refine own_zaload X84 hx hby hZ (1 : Int32) e84 Adn (by decide) rfl d8_213 rfl ?_
  refine own_if_eq X84 hx hby d8_214 (pcY := 249) (pcN := 217) (by decide) rfl (fun (hc85 : (1 : Int32) = (0 : Int32)) => False.elim (by exact absurd hc85 (by decide))) (fun (hc85 : ¬ (1 : Int32) = (0 : Int32)) => ?_)
  refine own_aloadN X84 hx hby d8_217 rfl rfl rfl ?_
  refine own_getfield X84 hx hby hZ hown (host := "") (Or.inl (hw _ tw_15)) Via.refl e84 (B_rowPotential B) d8_218 rfl (fun T86 X86 e86 => ?_)
  refine own_aloadN X86 hx hby d8_221 rfl rfl rfl ?_
  refine own_getfield X86 hx hby hZ hown (host := "") (Or.inl (hw _ tw_20)) Via.refl e86 (B_holder B) d8_222 rfl (fun T87 X87 e87 => ?_)
  refine own_iload X87 hx hby d8_225 rfl rfl ?_
  refine own_iaload X87 hx hby hZ (2 : Int32) e87 Aho (by decide) rfl d8_227 rfl ?_
  refine own_dup2 X87 hx hby d8_228 rfl rfl rfl ?_
  refine own_laload X87 hx hby hZ U2 e87 Aup (by decide) rfl d8_229 rfl ?_
  refine own_lload X87 hx hby d8_230 rfl rfl ?_
  refine own_ladd X87 hx hby d8_232 rfl ?_
  generalize hgy1 : (U2 + least) = y1
  have hy1 := own_addd hU hd
  rw [hgy1] at hy1
  show Ends p.tables e below _ (T87.setTop (mkF m 233 #[.val (.ref x), .val (.int w1), .val (.int (2 : Int32)), .val (.int col), .val (.int r), .val (.ref rr), .val (.long least), .second, .val (.int next), .val (.int (0 : Int32)), s10, s11, s12, s13] [(.long y1), (.int (2 : Int32)), (.ref up)]))
  refine own_lastore X87 hx hby hZ y1 rfl e87 Aup (by decide) 2 rfl (show 2 < 3 by decide) [(.long U0), (.long U1), (.long y1)] rfl rfl hN (ge_up ord) d8_233 rfl (fun T88 h88 L88 X88 e88 W88 V88 N88 => ?_)
  refine own_aloadN X88 hx hby d8_234 rfl rfl rfl ?_
  have f89 := (own_Bw B W88 (ne_x_up ord) (ne_cs_up ord) (ne_r0_up ord) (ne_r1_up ord))
  refine own_getfield X88 hx hby hZ hown (host := "") (Or.inl (hw _ tw_17)) Via.refl e88 (B_columnPotential f89) d8_235 rfl (fun T90 X90 e90 => ?_)
  refine own_iload X90 hx hby d8_238 rfl rfl ?_
  refine own_dup2 X90 hx hby d8_240 rfl rfl rfl ?_
  have f91 := (Avp.other W88 (ne_vp_up ord))
  refine own_laload X90 hx hby hZ V0 e90 f91 (by decide) rfl d8_241 rfl ?_
  refine own_lload X90 hx hby d8_242 rfl rfl ?_
  refine own_lsub X90 hx hby d8_244 rfl ?_
  generalize hgy2 : (V0 - least) = y2
  have hy2 := own_subd hV hd
  rw [hgy2] at hy2
  show Ends p.tables e below _ (T90.setTop (mkF m 245 #[.val (.ref x), .val (.int w1), .val (.int (2 : Int32)), .val (.int col), .val (.int r), .val (.ref rr), .val (.long least), .second, .val (.int next), .val (.int (0 : Int32)), s10, s11, s12, s13] [(.long y2), (.int (0 : Int32)), (.ref vp)]))
  refine own_lastore X90 hx hby hZ y2 rfl e90 f91 (by decide) 0 rfl (show 0 < 3 by decide) [(.long y2), (.long V1), (.long V2)] rfl rfl N88 (ge_vp ord) d8_245 rfl (fun T92 h92 L92 X92 e92 W92 V92 N92 => ?_)
  refine own_goto X92 hx hby d8_246 (pc' := 275) (by decide) ?_
  refine own_iinc X92 hx hby d8_275 rfl (1 : Int32) rfl #[.val (.ref x), .val (.int w1), .val (.int (2 : Int32)), .val (.int col), .val (.int r), .val (.ref rr), .val (.long least), .second, .val (.int next), .val (.int (1 : Int32)), s10, s11, s12, s13] rfl rfl ?_
  refine own_goto X92 hx hby d8_278 (pc' := 201) (by decide) ?_
  have f93 := (own_Bw f89 W92 (ne_x_vp ord) (ne_cs_vp ord) (ne_r0_vp ord) (ne_r1_vp ord))
  have f94 := (V88.other W92 (ne_up_vp ord))
  have f95 := ((Aho.other W88 (ne_ho_up ord)).other W92 (ne_ho_vp ord))
  have f96 := ((Apr.other W88 (ne_pr_up ord)).other W92 (ne_pr_vp ord))
  have f97 := ((Are.other W88 (ne_re_up ord)).other W92 (ne_re_vp ord))
  have f98 := ((Adn.other W88 (ne_dn_up ord)).other W92 (ne_dn_vp ord))
  exact kt T92 _ _ y1 y2 X92 e92 N92 f93 f94 V92 f95 f96 f97 f98 hy1 hy2
set_option maxRecDepth 65536 in
set_option maxHeartbeats 40000000 in
theorem upd1_1 {p : Program} {l : Launch} {e : Env} {R : Room} {s : State} {m : MethodId} {args : Array Value} {below : List Frame} {meth : Method} {c : Code} {Fz : Outcome → State → Prop} {Z : State} {a0 : Array Value} (hx : p.tables.exec = Jvm.exec) (hby : c.code = prog_3_method_7_code) (hml : c.maxLocals = 14) (hown : s.vm.findClass "com/example/weftwork/weftwork/algorithm/Assignment" = some m.cls) (hZ : Z.Warmed39 s.vm) (hw : ∀ d ∈ tables_1, d.before a0 Z = true) {n0 cells slots : Nat} {locs : List Loc} {T : State} {h : Heap} {x cs r0 r1 up vp ho pr re dn rr : Addr} {kc k0 k1 ku kv kh kp kr kd : ClassId} {ca cb cc cd U0 U1 U2 V0 V1 V2 Q0 Q1 Q2 least : Int64} {H0 H2 P0 P1 P2 D0 D2 w1 col r next : Int32} {s10 s11 s12 s13 : Slot} (ord : OwnOrd n0 x cs r0 r1 up vp ho pr re dn) (B : OwnB Z h x cs r0 r1 up vp ho pr re dn kc k0 k1 ca cb cc cd) (Aup : Arv Z h up ku .long (3 : Int32) [(.long U0), (.long U1), (.long U2)] (.long 0)) (Avp : Arv Z h vp kv .long (3 : Int32) [(.long V0), (.long V1), (.long V2)] (.long 0)) (Aho : Arv Z h ho kh .int (3 : Int32) [(.int H0), (.int (1 : Int32)), (.int H2)] (.int 0)) (Apr : Arv Z h pr kp .int (3 : Int32) [(.int P0), (.int P1), (.int P2)] (.int 0)) (Are : Arv Z h re kr .long (3 : Int32) [(.long Q0), (.long Q1), (.long Q2)] (.long 0)) (Adn : Arv Z h dn kd .boolean (3 : Int32) [(.int D0), (.int (1 : Int32)), (.int D2)] (.int 0)) (hU : OwnBd U1) (hV : OwnBd V1) (hd : 0 ≤ least.toInt ∧ least.toInt ≤ 1152921504606846976) (hN : Fr n0 locs) (X0 : Stand p l e R s m args below meth c T locs cells slots) (e0 : T.heap = h)
    (kt : ∀ (T' : State) (h' : Heap) (L' : List Loc) (U' V' : Int64), Stand p l e R s m args below meth c T' L' cells slots → T'.heap = h' → Fr n0 L' → OwnB Z h' x cs r0 r1 up vp ho pr re dn kc k0 k1 ca cb cc cd → Arv Z h' up ku .long (3 : Int32) [(.long U0), (.long U'), (.long U2)] (.long 0) → Arv Z h' vp kv .long (3 : Int32) [(.long V0), (.long V'), (.long V2)] (.long 0) → Arv Z h' ho kh .int (3 : Int32) [(.int H0), (.int (1 : Int32)), (.int H2)] (.int 0) → Arv Z h' pr kp .int (3 : Int32) [(.int P0), (.int P1), (.int P2)] (.int 0) → Arv Z h' re kr .long (3 : Int32) [(.long Q0), (.long Q1), (.long Q2)] (.long 0) → Arv Z h' dn kd .boolean (3 : Int32) [(.int D0), (.int (1 : Int32)), (.int D2)] (.int 0) → U'.toInt = U1.toInt + least.toInt → V'.toInt = V1.toInt - least.toInt → Ends p.tables e below Fz (T'.setTop (mkF m 201 #[.val (.ref x), .val (.int w1), .val (.int (2 : Int32)), .val (.int col), .val (.int r), .val (.ref rr), .val (.long least), .second, .val (.int next), .val (.int (2 : Int32)), s10, s11, s12, s13] []))) :
    Ends p.tables e below Fz (T.setTop (mkF m 201 #[.val (.ref x), .val (.int w1), .val (.int (2 : Int32)), .val (.int col), .val (.int r), .val (.ref rr), .val (.long least), .second, .val (.int next), .val (.int (1 : Int32)), s10, s11, s12, s13] [])) := by
  refine own_iload X0 hx hby d8_201 rfl rfl ?_
  refine own_iloadN X0 hx hby d8_203 rfl rfl ?_
  refine own_icmp_gt X0 hx hby d8_204 (pcY := 281) (pcN := 207) (by decide) rfl (fun (hc99 : 2 < 1) => False.elim (by exact absurd hc99 (by decide))) (fun (hc99 : 1 ≤ 2) => ?_)
  refine own_aloadN X0 hx hby d8_207 rfl rfl rfl ?_
  refine own_getfield X0 hx hby hZ hown (host := "") (Or.inl (hw _ tw_27)) Via.refl e0 (B_done B) d8_208 rfl (fun T100 X100 e100 => ?_)
  refine own_iload X100 hx hby d8_211 rfl rfl ?_
  refine own_zaload X100 hx hby hZ (1 : Int32) e100 Adn (by decide) rfl d8_213 rfl ?_
  refine own_if_eq X100 hx hby d8_214 (pcY := 249) (pcN := 217) (by decide) rfl (fun (hc101 : (1 : Int32) = (0 : Int32)) => False.elim (by exact absurd hc101 (by decide))) (fun (hc101 : ¬ (1 : Int32) = (0 : Int32)) => ?_)
  refine own_aloadN X100 hx hby d8_217 rfl rfl rfl ?_
  refine own_getfield X100 hx hby hZ hown (host := "") (Or.inl (hw _ tw_15)) Via.refl e100 (B_rowPotential B) d8_218 rfl (fun T102 X102 e102 => ?_)
  refine own_aloadN X102 hx hby d8_221 rfl rfl rfl ?_
  refine own_getfield X102 hx hby hZ hown (host := "") (Or.inl (hw _ tw_20)) Via.refl e102 (B_holder B) d8_222 rfl (fun T103 X103 e103 => ?_)
  refine own_iload X103 hx hby d8_225 rfl rfl ?_
  refine own_iaload X103 hx hby hZ (1 : Int32) e103 Aho (by decide) rfl d8_227 rfl ?_
  refine own_dup2 X103 hx hby d8_228 rfl rfl rfl ?_
  refine own_laload X103 hx hby hZ U1 e103 Aup (by decide) rfl d8_229 rfl ?_
  refine own_lload X103 hx hby d8_230 rfl rfl ?_
  refine own_ladd X103 hx hby d8_232 rfl ?_
  generalize hgy1 : (U1 + least) = y1
  have hy1 := own_addd hU hd
  rw [hgy1] at hy1
  show Ends p.tables e below _ (T103.setTop (mkF m 233 #[.val (.ref x), .val (.int w1), .val (.int (2 : Int32)), .val (.int col), .val (.int r), .val (.ref rr), .val (.long least), .second, .val (.int next), .val (.int (1 : Int32)), s10, s11, s12, s13] [(.long y1), (.int (1 : Int32)), (.ref up)]))
  refine own_lastore X103 hx hby hZ y1 rfl e103 Aup (by decide) 1 rfl (show 1 < 3 by decide) [(.long U0), (.long y1), (.long U2)] rfl rfl hN (ge_up ord) d8_233 rfl (fun T104 h104 L104 X104 e104 W104 V104 N104 => ?_)
  refine own_aloadN X104 hx hby d8_234 rfl rfl rfl ?_
  have f105 := (own_Bw B W104 (ne_x_up ord) (ne_cs_up ord) (ne_r0_up ord) (ne_r1_up ord))
  refine own_getfield X104 hx hby hZ hown (host := "") (Or.inl (hw _ tw_17)) Via.refl e104 (B_columnPotential f105) d8_235 rfl (fun T106 X106 e106 => ?_)
  refine own_iload X106 hx hby d8_238 rfl rfl ?_
  refine own_dup2 X106 hx hby d8_240 rfl rfl rfl ?_
  have f107 := (Avp.other W104 (ne_vp_up ord))
  refine own_laload X106 hx hby hZ V1 e106 f107 (by decide) rfl d8_241 rfl ?_
  refine own_lload X106 hx hby d8_242 rfl rfl ?_
  refine own_lsub X106 hx hby d8_244 rfl ?_
  generalize hgy2 : (V1 - least) = y2
  have hy2 := own_subd hV hd
  rw [hgy2] at hy2
  show Ends p.tables e below _ (T106.setTop (mkF m 245 #[.val (.ref x), .val (.int w1), .val (.int (2 : Int32)), .val (.int col), .val (.int r), .val (.ref rr), .val (.long least), .second, .val (.int next), .val (.int (1 : Int32)), s10, s11, s12, s13] [(.long y2), (.int (1 : Int32)), (.ref vp)]))
  refine own_lastore X106 hx hby hZ y2 rfl e106 f107 (by decide) 1 rfl (show 1 < 3 by decide) [(.long V0), (.long y2), (.long V2)] rfl rfl N104 (ge_vp ord) d8_245 rfl (fun T108 h108 L108 X108 e108 W108 V108 N108 => ?_)
  refine own_goto X108 hx hby d8_246 (pc' := 275) (by decide) ?_
  refine own_iinc X108 hx hby d8_275 rfl (1 : Int32) rfl #[.val (.ref x), .val (.int w1), .val (.int (2 : Int32)), .val (.int col), .val (.int r), .val (.ref rr), .val (.long least), .second, .val (.int next), .val (.int (2 : Int32)), s10, s11, s12, s13] rfl rfl ?_
  refine own_goto X108 hx hby d8_278 (pc' := 201) (by decide) ?_
  have f109 := (own_Bw f105 W108 (ne_x_vp ord) (ne_cs_vp ord) (ne_r0_vp ord) (ne_r1_vp ord))
  have f110 := (V104.other W108 (ne_up_vp ord))
  have f111 := ((Aho.other W104 (ne_ho_up ord)).other W108 (ne_ho_vp ord))
  have f112 := ((Apr.other W104 (ne_pr_up ord)).other W108 (ne_pr_vp ord))
  have f113 := ((Are.other W104 (ne_re_up ord)).other W108 (ne_re_vp ord))
  have f114 := ((Adn.other W104 (ne_dn_up ord)).other W108 (ne_dn_vp ord))
  exact kt T108 _ _ y1 y2 X108 e108 N108 f109 f110 V108 f111 f112 f113 f114 hy1 hy2
set_option maxRecDepth 65536 in
set_option maxHeartbeats 40000000 in
theorem upd2_1 {p : Program} {l : Launch} {e : Env} {R : Room} {s : State} {m : MethodId} {args : Array Value} {below : List Frame} {meth : Method} {c : Code} {Fz : Outcome → State → Prop} {Z : State} {a0 : Array Value} (hx : p.tables.exec = Jvm.exec) (hby : c.code = prog_3_method_7_code) (hml : c.maxLocals = 14) (hown : s.vm.findClass "com/example/weftwork/weftwork/algorithm/Assignment" = some m.cls) (hZ : Z.Warmed39 s.vm) (hw : ∀ d ∈ tables_1, d.before a0 Z = true) {n0 cells slots : Nat} {locs : List Loc} {T : State} {h : Heap} {x cs r0 r1 up vp ho pr re dn rr : Addr} {kc k0 k1 ku kv kh kp kr kd : ClassId} {ca cb cc cd U0 U1 U2 V0 V1 V2 Q0 Q1 Q2 least : Int64} {H0 H1 P0 P1 P2 D0 D1 w1 col r next : Int32} {s10 s11 s12 s13 : Slot} (ord : OwnOrd n0 x cs r0 r1 up vp ho pr re dn) (B : OwnB Z h x cs r0 r1 up vp ho pr re dn kc k0 k1 ca cb cc cd) (Aup : Arv Z h up ku .long (3 : Int32) [(.long U0), (.long U1), (.long U2)] (.long 0)) (Avp : Arv Z h vp kv .long (3 : Int32) [(.long V0), (.long V1), (.long V2)] (.long 0)) (Aho : Arv Z h ho kh .int (3 : Int32) [(.int H0), (.int H1), (.int (1 : Int32))] (.int 0)) (Apr : Arv Z h pr kp .int (3 : Int32) [(.int P0), (.int P1), (.int P2)] (.int 0)) (Are : Arv Z h re kr .long (3 : Int32) [(.long Q0), (.long Q1), (.long Q2)] (.long 0)) (Adn : Arv Z h dn kd .boolean (3 : Int32) [(.int D0), (.int D1), (.int (1 : Int32))] (.int 0)) (hU : OwnBd U1) (hV : OwnBd V2) (hd : 0 ≤ least.toInt ∧ least.toInt ≤ 1152921504606846976) (hN : Fr n0 locs) (X0 : Stand p l e R s m args below meth c T locs cells slots) (e0 : T.heap = h)
    (kt : ∀ (T' : State) (h' : Heap) (L' : List Loc) (U' V' : Int64), Stand p l e R s m args below meth c T' L' cells slots → T'.heap = h' → Fr n0 L' → OwnB Z h' x cs r0 r1 up vp ho pr re dn kc k0 k1 ca cb cc cd → Arv Z h' up ku .long (3 : Int32) [(.long U0), (.long U'), (.long U2)] (.long 0) → Arv Z h' vp kv .long (3 : Int32) [(.long V0), (.long V1), (.long V')] (.long 0) → Arv Z h' ho kh .int (3 : Int32) [(.int H0), (.int H1), (.int (1 : Int32))] (.int 0) → Arv Z h' pr kp .int (3 : Int32) [(.int P0), (.int P1), (.int P2)] (.int 0) → Arv Z h' re kr .long (3 : Int32) [(.long Q0), (.long Q1), (.long Q2)] (.long 0) → Arv Z h' dn kd .boolean (3 : Int32) [(.int D0), (.int D1), (.int (1 : Int32))] (.int 0) → U'.toInt = U1.toInt + least.toInt → V'.toInt = V2.toInt - least.toInt → Ends p.tables e below Fz (T'.setTop (mkF m 201 #[.val (.ref x), .val (.int w1), .val (.int (2 : Int32)), .val (.int col), .val (.int r), .val (.ref rr), .val (.long least), .second, .val (.int next), .val (.int (3 : Int32)), s10, s11, s12, s13] []))) :
    Ends p.tables e below Fz (T.setTop (mkF m 201 #[.val (.ref x), .val (.int w1), .val (.int (2 : Int32)), .val (.int col), .val (.int r), .val (.ref rr), .val (.long least), .second, .val (.int next), .val (.int (2 : Int32)), s10, s11, s12, s13] [])) := by
  refine own_iload X0 hx hby d8_201 rfl rfl ?_
  refine own_iloadN X0 hx hby d8_203 rfl rfl ?_
  refine own_icmp_gt X0 hx hby d8_204 (pcY := 281) (pcN := 207) (by decide) rfl (fun (hc115 : 2 < 2) => False.elim (by exact absurd hc115 (by decide))) (fun (hc115 : 2 ≤ 2) => ?_)
  refine own_aloadN X0 hx hby d8_207 rfl rfl rfl ?_
  refine own_getfield X0 hx hby hZ hown (host := "") (Or.inl (hw _ tw_27)) Via.refl e0 (B_done B) d8_208 rfl (fun T116 X116 e116 => ?_)
  refine own_iload X116 hx hby d8_211 rfl rfl ?_
  refine own_zaload X116 hx hby hZ (1 : Int32) e116 Adn (by decide) rfl d8_213 rfl ?_
  refine own_if_eq X116 hx hby d8_214 (pcY := 249) (pcN := 217) (by decide) rfl (fun (hc117 : (1 : Int32) = (0 : Int32)) => False.elim (by exact absurd hc117 (by decide))) (fun (hc117 : ¬ (1 : Int32) = (0 : Int32)) => ?_)
  refine own_aloadN X116 hx hby d8_217 rfl rfl rfl ?_
  refine own_getfield X116 hx hby hZ hown (host := "") (Or.inl (hw _ tw_15)) Via.refl e116 (B_rowPotential B) d8_218 rfl (fun T118 X118 e118 => ?_)
  refine own_aloadN X118 hx hby d8_221 rfl rfl rfl ?_
  refine own_getfield X118 hx hby hZ hown (host := "") (Or.inl (hw _ tw_20)) Via.refl e118 (B_holder B) d8_222 rfl (fun T119 X119 e119 => ?_)
  refine own_iload X119 hx hby d8_225 rfl rfl ?_
  refine own_iaload X119 hx hby hZ (1 : Int32) e119 Aho (by decide) rfl d8_227 rfl ?_
  refine own_dup2 X119 hx hby d8_228 rfl rfl rfl ?_
  refine own_laload X119 hx hby hZ U1 e119 Aup (by decide) rfl d8_229 rfl ?_
  refine own_lload X119 hx hby d8_230 rfl rfl ?_
  refine own_ladd X119 hx hby d8_232 rfl ?_
  generalize hgy1 : (U1 + least) = y1
  have hy1 := own_addd hU hd
  rw [hgy1] at hy1
  show Ends p.tables e below _ (T119.setTop (mkF m 233 #[.val (.ref x), .val (.int w1), .val (.int (2 : Int32)), .val (.int col), .val (.int r), .val (.ref rr), .val (.long least), .second, .val (.int next), .val (.int (2 : Int32)), s10, s11, s12, s13] [(.long y1), (.int (1 : Int32)), (.ref up)]))
  refine own_lastore X119 hx hby hZ y1 rfl e119 Aup (by decide) 1 rfl (show 1 < 3 by decide) [(.long U0), (.long y1), (.long U2)] rfl rfl hN (ge_up ord) d8_233 rfl (fun T120 h120 L120 X120 e120 W120 V120 N120 => ?_)
  refine own_aloadN X120 hx hby d8_234 rfl rfl rfl ?_
  have f121 := (own_Bw B W120 (ne_x_up ord) (ne_cs_up ord) (ne_r0_up ord) (ne_r1_up ord))
  refine own_getfield X120 hx hby hZ hown (host := "") (Or.inl (hw _ tw_17)) Via.refl e120 (B_columnPotential f121) d8_235 rfl (fun T122 X122 e122 => ?_)
  refine own_iload X122 hx hby d8_238 rfl rfl ?_
  refine own_dup2 X122 hx hby d8_240 rfl rfl rfl ?_
  have f123 := (Avp.other W120 (ne_vp_up ord))
  refine own_laload X122 hx hby hZ V2 e122 f123 (by decide) rfl d8_241 rfl ?_
  refine own_lload X122 hx hby d8_242 rfl rfl ?_
  refine own_lsub X122 hx hby d8_244 rfl ?_
  generalize hgy2 : (V2 - least) = y2
  have hy2 := own_subd hV hd
  rw [hgy2] at hy2
  show Ends p.tables e below _ (T122.setTop (mkF m 245 #[.val (.ref x), .val (.int w1), .val (.int (2 : Int32)), .val (.int col), .val (.int r), .val (.ref rr), .val (.long least), .second, .val (.int next), .val (.int (2 : Int32)), s10, s11, s12, s13] [(.long y2), (.int (2 : Int32)), (.ref vp)]))
  refine own_lastore X122 hx hby hZ y2 rfl e122 f123 (by decide) 2 rfl (show 2 < 3 by decide) [(.long V0), (.long V1), (.long y2)] rfl rfl N120 (ge_vp ord) d8_245 rfl (fun T124 h124 L124 X124 e124 W124 V124 N124 => ?_)
  refine own_goto X124 hx hby d8_246 (pc' := 275) (by decide) ?_
  refine own_iinc X124 hx hby d8_275 rfl (1 : Int32) rfl #[.val (.ref x), .val (.int w1), .val (.int (2 : Int32)), .val (.int col), .val (.int r), .val (.ref rr), .val (.long least), .second, .val (.int next), .val (.int (3 : Int32)), s10, s11, s12, s13] rfl rfl ?_
  refine own_goto X124 hx hby d8_278 (pc' := 201) (by decide) ?_
  have f125 := (own_Bw f121 W124 (ne_x_vp ord) (ne_cs_vp ord) (ne_r0_vp ord) (ne_r1_vp ord))
  have f126 := (V120.other W124 (ne_up_vp ord))
  have f127 := ((Aho.other W120 (ne_ho_up ord)).other W124 (ne_ho_vp ord))
  have f128 := ((Apr.other W120 (ne_pr_up ord)).other W124 (ne_pr_vp ord))
  have f129 := ((Are.other W120 (ne_re_up ord)).other W124 (ne_re_vp ord))
  have f130 := ((Adn.other W120 (ne_dn_up ord)).other W124 (ne_dn_vp ord))
  exact kt T124 _ _ y1 y2 X124 e124 N124 f125 f126 V124 f127 f128 f129 f130 hy1 hy2
set_option maxRecDepth 65536 in
set_option maxHeartbeats 40000000 in
theorem updn1 {p : Program} {l : Launch} {e : Env} {R : Room} {s : State} {m : MethodId} {args : Array Value} {below : List Frame} {meth : Method} {c : Code} {Fz : Outcome → State → Prop} {Z : State} {a0 : Array Value} (hx : p.tables.exec = Jvm.exec) (hby : c.code = prog_3_method_7_code) (hml : c.maxLocals = 14) (hown : s.vm.findClass "com/example/weftwork/weftwork/algorithm/Assignment" = some m.cls) (hZ : Z.Warmed39 s.vm) (hw : ∀ d ∈ tables_1, d.before a0 Z = true) {n0 cells slots : Nat} {locs : List Loc} {T : State} {h : Heap} {x cs r0 r1 up vp ho pr re dn rr : Addr} {kc k0 k1 ku kv kh kp kr kd : ClassId} {ca cb cc cd U0 U1 U2 V0 V1 V2 Q0 Q1 Q2 least : Int64} {H0 H1 H2 P0 P1 P2 D0 D2 w1 col r next : Int32} {s10 s11 s12 s13 : Slot} (ord : OwnOrd n0 x cs r0 r1 up vp ho pr re dn) (B : OwnB Z h x cs r0 r1 up vp ho pr re dn kc k0 k1 ca cb cc cd) (Aup : Arv Z h up ku .long (3 : Int32) [(.long U0), (.long U1), (.long U2)] (.long 0)) (Avp : Arv Z h vp kv .long (3 : Int32) [(.long V0), (.long V1), (.long V2)] (.long 0)) (Aho : Arv Z h ho kh .int (3 : Int32) [(.int H0), (.int H1), (.int H2)] (.int 0)) (Apr : Arv Z h pr kp .int (3 : Int32) [(.int P0), (.int P1), (.int P2)] (.int 0)) (Are : Arv Z h re kr .long (3 : Int32) [(.long Q0), (.long Q1), (.long Q2)] (.long 0)) (Adn : Arv Z h dn kd .boolean (3 : Int32) [(.int D0), (.int (0 : Int32)), (.int D2)] (.int 0)) (hQ : Q1.toInt = 9223372036854775807 ∨ OwnBd Q1) (hd : 0 ≤ least.toInt ∧ least.toInt ≤ 1152921504606846976) (hN : Fr n0 locs) (X0 : Stand p l e R s m args below meth c T locs cells slots) (e0 : T.heap = h)
    (kt : ∀ (T' : State) (h' : Heap) (L' : List Loc) (Q' : Int64), Stand p l e R s m args below meth c T' L' cells slots → T'.heap = h' → Fr n0 L' → OwnB Z h' x cs r0 r1 up vp ho pr re dn kc k0 k1 ca cb cc cd → Arv Z h' up ku .long (3 : Int32) [(.long U0), (.long U1), (.long U2)] (.long 0) → Arv Z h' vp kv .long (3 : Int32) [(.long V0), (.long V1), (.long V2)] (.long 0) → Arv Z h' ho kh .int (3 : Int32) [(.int H0), (.int H1), (.int H2)] (.int 0) → Arv Z h' pr kp .int (3 : Int32) [(.int P0), (.int P1), (.int P2)] (.int 0) → Arv Z h' re kr .long (3 : Int32) [(.long Q0), (.long Q'), (.long Q2)] (.long 0) → Arv Z h' dn kd .boolean (3 : Int32) [(.int D0), (.int (0 : Int32)), (.int D2)] (.int 0) → ((Q1.toInt = 9223372036854775807 ∧ Q'.toInt = 9223372036854775807) ∨ (Q1.toInt ≠ 9223372036854775807 ∧ Q'.toInt = Q1.toInt - least.toInt)) → Ends p.tables e below Fz (T'.setTop (mkF m 201 #[.val (.ref x), .val (.int w1), .val (.int (2 : Int32)), .val (.int col), .val (.int r), .val (.ref rr), .val (.long least), .second, .val (.int next), .val (.int (2 : Int32)), s10, s11, s12, s13] []))) :
    Ends p.tables e below Fz (T.setTop (mkF m 201 #[.val (.ref x), .val (.int w1), .val (.int (2 : Int32)), .val (.int col), .val (.int r), .val (.ref rr), .val (.long least), .second, .val (.int next), .val (.int (1 : Int32)), s10, s11, s12, s13] [])) := by
  refine own_iload X0 hx hby d8_201 rfl rfl ?_
  refine own_iloadN X0 hx hby d8_203 rfl rfl ?_
  refine own_icmp_gt X0 hx hby d8_204 (pcY := 281) (pcN := 207) (by decide) rfl (fun (hc131 : 2 < 1) => False.elim (by exact absurd hc131 (by decide))) (fun (hc131 : 1 ≤ 2) => ?_)
  refine own_aloadN X0 hx hby d8_207 rfl rfl rfl ?_
  refine own_getfield X0 hx hby hZ hown (host := "") (Or.inl (hw _ tw_27)) Via.refl e0 (B_done B) d8_208 rfl (fun T132 X132 e132 => ?_)
  refine own_iload X132 hx hby d8_211 rfl rfl ?_
  refine own_zaload X132 hx hby hZ (0 : Int32) e132 Adn (by decide) rfl d8_213 rfl ?_
  refine own_if_eq X132 hx hby d8_214 (pcY := 249) (pcN := 217) (by decide) rfl (fun (hc133 : (0 : Int32) = (0 : Int32)) => ?_) (fun (hc133 : ¬ (0 : Int32) = (0 : Int32)) => False.elim (by exact absurd hc133 (by decide)))
  refine own_aloadN X132 hx hby d8_249 rfl rfl rfl ?_
  refine own_getfield X132 hx hby hZ hown (host := "") (Or.inl (hw _ tw_24)) Via.refl e132 (B_reach B) d8_250 rfl (fun T134 X134 e134 => ?_)
  refine own_iload X134 hx hby d8_253 rfl rfl ?_
  refine own_laload X134 hx hby hZ Q1 e134 Are (by decide) rfl d8_255 rfl ?_
  refine own_ldc2J X134 hx hby hZ hown (hw _ tw_53) d8_256 rfl ?_
  refine own_lcmp_eq X134 hx hby d8_259 d8_260 (pcY := 275) (pcN := 263) (by decide) rfl (fun (hc135 : Q1 = (9223372036854775807 : Int64)) => ?_) (fun (hc135 : ¬ Q1 = (9223372036854775807 : Int64)) => ?_)
  · -- pc 259: t
    refine own_iinc X134 hx hby d8_275 rfl (1 : Int32) rfl #[.val (.ref x), .val (.int w1), .val (.int (2 : Int32)), .val (.int col), .val (.int r), .val (.ref rr), .val (.long least), .second, .val (.int next), .val (.int (2 : Int32)), s10, s11, s12, s13] rfl rfl ?_
    refine own_goto X134 hx hby d8_278 (pc' := 201) (by decide) ?_
    exact kt T134 _ _ Q1 X134 e134 hN B Aup Avp Aho Apr Are Adn (Or.inl ⟨by rw [hc135]; exact own_iN, by rw [hc135]; exact own_iN⟩)
  · -- pc 259: f
    refine own_aloadN X134 hx hby d8_263 rfl rfl rfl ?_
    refine own_getfield X134 hx hby hZ hown (host := "") (Or.inl (hw _ tw_24)) Via.refl e134 (B_reach B) d8_264 rfl (fun T136 X136 e136 => ?_)
    refine own_iload X136 hx hby d8_267 rfl rfl ?_
    refine own_dup2 X136 hx hby d8_269 rfl rfl rfl ?_
    refine own_laload X136 hx hby hZ Q1 e136 Are (by decide) rfl d8_270 rfl ?_
    refine own_lload X136 hx hby d8_271 rfl rfl ?_
    refine own_lsub X136 hx hby d8_273 rfl ?_
    generalize hg : (Q1 - least) = y1
    have hy1 := own_subd (hQ.resolve_left (by have k := own_ntl hc135; rw [own_iN] at k; exact k)) hd
    rw [hg] at hy1
    show Ends p.tables e below _ (T136.setTop (mkF m 274 #[.val (.ref x), .val (.int w1), .val (.int (2 : Int32)), .val (.int col), .val (.int r), .val (.ref rr), .val (.long least), .second, .val (.int next), .val (.int (1 : Int32)), s10, s11, s12, s13] [(.long y1), (.int (1 : Int32)), (.ref re)]))
    refine own_lastore X136 hx hby hZ y1 rfl e136 Are (by decide) 1 rfl (show 1 < 3 by decide) [(.long Q0), (.long y1), (.long Q2)] rfl rfl hN (ge_re ord) d8_274 rfl (fun T137 h137 L137 X137 e137 W137 V137 N137 => ?_)
    refine own_iinc X137 hx hby d8_275 rfl (1 : Int32) rfl #[.val (.ref x), .val (.int w1), .val (.int (2 : Int32)), .val (.int col), .val (.int r), .val (.ref rr), .val (.long least), .second, .val (.int next), .val (.int (2 : Int32)), s10, s11, s12, s13] rfl rfl ?_
    refine own_goto X137 hx hby d8_278 (pc' := 201) (by decide) ?_
    have f138 := (own_Bw B W137 (ne_x_re ord) (ne_cs_re ord) (ne_r0_re ord) (ne_r1_re ord))
    have f139 := (Aup.other W137 (ne_up_re ord))
    have f140 := (Avp.other W137 (ne_vp_re ord))
    have f141 := (Aho.other W137 (ne_ho_re ord))
    have f142 := (Apr.other W137 (ne_pr_re ord))
    have f143 := (Adn.other W137 (ne_dn_re ord))
    exact kt T137 _ _ y1 X137 e137 N137 f138 f139 f140 f141 f142 V137 f143 (Or.inr ⟨by have k := own_ntl hc135; rw [own_iN] at k; exact k, hy1⟩)
set_option maxRecDepth 65536 in
set_option maxHeartbeats 40000000 in
theorem updn2 {p : Program} {l : Launch} {e : Env} {R : Room} {s : State} {m : MethodId} {args : Array Value} {below : List Frame} {meth : Method} {c : Code} {Fz : Outcome → State → Prop} {Z : State} {a0 : Array Value} (hx : p.tables.exec = Jvm.exec) (hby : c.code = prog_3_method_7_code) (hml : c.maxLocals = 14) (hown : s.vm.findClass "com/example/weftwork/weftwork/algorithm/Assignment" = some m.cls) (hZ : Z.Warmed39 s.vm) (hw : ∀ d ∈ tables_1, d.before a0 Z = true) {n0 cells slots : Nat} {locs : List Loc} {T : State} {h : Heap} {x cs r0 r1 up vp ho pr re dn rr : Addr} {kc k0 k1 ku kv kh kp kr kd : ClassId} {ca cb cc cd U0 U1 U2 V0 V1 V2 Q0 Q1 Q2 least : Int64} {H0 H1 H2 P0 P1 P2 D0 D1 w1 col r next : Int32} {s10 s11 s12 s13 : Slot} (ord : OwnOrd n0 x cs r0 r1 up vp ho pr re dn) (B : OwnB Z h x cs r0 r1 up vp ho pr re dn kc k0 k1 ca cb cc cd) (Aup : Arv Z h up ku .long (3 : Int32) [(.long U0), (.long U1), (.long U2)] (.long 0)) (Avp : Arv Z h vp kv .long (3 : Int32) [(.long V0), (.long V1), (.long V2)] (.long 0)) (Aho : Arv Z h ho kh .int (3 : Int32) [(.int H0), (.int H1), (.int H2)] (.int 0)) (Apr : Arv Z h pr kp .int (3 : Int32) [(.int P0), (.int P1), (.int P2)] (.int 0)) (Are : Arv Z h re kr .long (3 : Int32) [(.long Q0), (.long Q1), (.long Q2)] (.long 0)) (Adn : Arv Z h dn kd .boolean (3 : Int32) [(.int D0), (.int D1), (.int (0 : Int32))] (.int 0)) (hQ : Q2.toInt = 9223372036854775807 ∨ OwnBd Q2) (hd : 0 ≤ least.toInt ∧ least.toInt ≤ 1152921504606846976) (hN : Fr n0 locs) (X0 : Stand p l e R s m args below meth c T locs cells slots) (e0 : T.heap = h)
    (kt : ∀ (T' : State) (h' : Heap) (L' : List Loc) (Q' : Int64), Stand p l e R s m args below meth c T' L' cells slots → T'.heap = h' → Fr n0 L' → OwnB Z h' x cs r0 r1 up vp ho pr re dn kc k0 k1 ca cb cc cd → Arv Z h' up ku .long (3 : Int32) [(.long U0), (.long U1), (.long U2)] (.long 0) → Arv Z h' vp kv .long (3 : Int32) [(.long V0), (.long V1), (.long V2)] (.long 0) → Arv Z h' ho kh .int (3 : Int32) [(.int H0), (.int H1), (.int H2)] (.int 0) → Arv Z h' pr kp .int (3 : Int32) [(.int P0), (.int P1), (.int P2)] (.int 0) → Arv Z h' re kr .long (3 : Int32) [(.long Q0), (.long Q1), (.long Q')] (.long 0) → Arv Z h' dn kd .boolean (3 : Int32) [(.int D0), (.int D1), (.int (0 : Int32))] (.int 0) → ((Q2.toInt = 9223372036854775807 ∧ Q'.toInt = 9223372036854775807) ∨ (Q2.toInt ≠ 9223372036854775807 ∧ Q'.toInt = Q2.toInt - least.toInt)) → Ends p.tables e below Fz (T'.setTop (mkF m 201 #[.val (.ref x), .val (.int w1), .val (.int (2 : Int32)), .val (.int col), .val (.int r), .val (.ref rr), .val (.long least), .second, .val (.int next), .val (.int (3 : Int32)), s10, s11, s12, s13] []))) :
    Ends p.tables e below Fz (T.setTop (mkF m 201 #[.val (.ref x), .val (.int w1), .val (.int (2 : Int32)), .val (.int col), .val (.int r), .val (.ref rr), .val (.long least), .second, .val (.int next), .val (.int (2 : Int32)), s10, s11, s12, s13] [])) := by
  refine own_iload X0 hx hby d8_201 rfl rfl ?_
  refine own_iloadN X0 hx hby d8_203 rfl rfl ?_
  refine own_icmp_gt X0 hx hby d8_204 (pcY := 281) (pcN := 207) (by decide) rfl (fun (hc144 : 2 < 2) => False.elim (by exact absurd hc144 (by decide))) (fun (hc144 : 2 ≤ 2) => ?_)
  refine own_aloadN X0 hx hby d8_207 rfl rfl rfl ?_
  refine own_getfield X0 hx hby hZ hown (host := "") (Or.inl (hw _ tw_27)) Via.refl e0 (B_done B) d8_208 rfl (fun T145 X145 e145 => ?_)
  refine own_iload X145 hx hby d8_211 rfl rfl ?_
  refine own_zaload X145 hx hby hZ (0 : Int32) e145 Adn (by decide) rfl d8_213 rfl ?_
  refine own_if_eq X145 hx hby d8_214 (pcY := 249) (pcN := 217) (by decide) rfl (fun (hc146 : (0 : Int32) = (0 : Int32)) => ?_) (fun (hc146 : ¬ (0 : Int32) = (0 : Int32)) => False.elim (by exact absurd hc146 (by decide)))
  refine own_aloadN X145 hx hby d8_249 rfl rfl rfl ?_
  refine own_getfield X145 hx hby hZ hown (host := "") (Or.inl (hw _ tw_24)) Via.refl e145 (B_reach B) d8_250 rfl (fun T147 X147 e147 => ?_)
  refine own_iload X147 hx hby d8_253 rfl rfl ?_
  refine own_laload X147 hx hby hZ Q2 e147 Are (by decide) rfl d8_255 rfl ?_
  refine own_ldc2J X147 hx hby hZ hown (hw _ tw_53) d8_256 rfl ?_
  refine own_lcmp_eq X147 hx hby d8_259 d8_260 (pcY := 275) (pcN := 263) (by decide) rfl (fun (hc148 : Q2 = (9223372036854775807 : Int64)) => ?_) (fun (hc148 : ¬ Q2 = (9223372036854775807 : Int64)) => ?_)
  · -- pc 259: t
    refine own_iinc X147 hx hby d8_275 rfl (1 : Int32) rfl #[.val (.ref x), .val (.int w1), .val (.int (2 : Int32)), .val (.int col), .val (.int r), .val (.ref rr), .val (.long least), .second, .val (.int next), .val (.int (3 : Int32)), s10, s11, s12, s13] rfl rfl ?_
    refine own_goto X147 hx hby d8_278 (pc' := 201) (by decide) ?_
    exact kt T147 _ _ Q2 X147 e147 hN B Aup Avp Aho Apr Are Adn (Or.inl ⟨by rw [hc148]; exact own_iN, by rw [hc148]; exact own_iN⟩)
  · -- pc 259: f
    refine own_aloadN X147 hx hby d8_263 rfl rfl rfl ?_
    refine own_getfield X147 hx hby hZ hown (host := "") (Or.inl (hw _ tw_24)) Via.refl e147 (B_reach B) d8_264 rfl (fun T149 X149 e149 => ?_)
    refine own_iload X149 hx hby d8_267 rfl rfl ?_
    refine own_dup2 X149 hx hby d8_269 rfl rfl rfl ?_
    refine own_laload X149 hx hby hZ Q2 e149 Are (by decide) rfl d8_270 rfl ?_
    refine own_lload X149 hx hby d8_271 rfl rfl ?_
    refine own_lsub X149 hx hby d8_273 rfl ?_
    generalize hg : (Q2 - least) = y1
    have hy1 := own_subd (hQ.resolve_left (by have k := own_ntl hc148; rw [own_iN] at k; exact k)) hd
    rw [hg] at hy1
    show Ends p.tables e below _ (T149.setTop (mkF m 274 #[.val (.ref x), .val (.int w1), .val (.int (2 : Int32)), .val (.int col), .val (.int r), .val (.ref rr), .val (.long least), .second, .val (.int next), .val (.int (2 : Int32)), s10, s11, s12, s13] [(.long y1), (.int (2 : Int32)), (.ref re)]))
    refine own_lastore X149 hx hby hZ y1 rfl e149 Are (by decide) 2 rfl (show 2 < 3 by decide) [(.long Q0), (.long Q1), (.long y1)] rfl rfl hN (ge_re ord) d8_274 rfl (fun T150 h150 L150 X150 e150 W150 V150 N150 => ?_)
    refine own_iinc X150 hx hby d8_275 rfl (1 : Int32) rfl #[.val (.ref x), .val (.int w1), .val (.int (2 : Int32)), .val (.int col), .val (.int r), .val (.ref rr), .val (.long least), .second, .val (.int next), .val (.int (3 : Int32)), s10, s11, s12, s13] rfl rfl ?_
    refine own_goto X150 hx hby d8_278 (pc' := 201) (by decide) ?_
    have f151 := (own_Bw B W150 (ne_x_re ord) (ne_cs_re ord) (ne_r0_re ord) (ne_r1_re ord))
    have f152 := (Aup.other W150 (ne_up_re ord))
    have f153 := (Avp.other W150 (ne_vp_re ord))
    have f154 := (Aho.other W150 (ne_ho_re ord))
    have f155 := (Apr.other W150 (ne_pr_re ord))
    have f156 := (Adn.other W150 (ne_dn_re ord))
    exact kt T150 _ _ y1 X150 e150 N150 f151 f152 f153 f154 f155 V150 f156 (Or.inr ⟨by have k := own_ntl hc148; rw [own_iN] at k; exact k, hy1⟩)
set_option maxRecDepth 65536 in
set_option maxHeartbeats 40000000 in
theorem rmrc (l : Launch) (Z : State) (a0 : Array Value) (hw : ∀ d ∈ tables_1, d.before a0 Z = true)  (h0 : Heap) :
    OwnMet l Z (⟨"java/util/Arrays", "rangeCheck", "(III)V"⟩ : MethodName) jdk_65_method_30_code 3 none [] ({ frames := 0, cells := 0, slots := 0, locals := 0 } : Room) #[(.int (3 : Int32)), (.int (0 : Int32)), (.int (3 : Int32))] h0 (fun v h L => v = none ∧ L = [] ∧ h = h0) := by
  refine own_body (plainFor_of_name pn_0) (fun m => ef_rc m ) ?_
  intro p e s m below meth c s₁ X0 hx hby hml hown hnm hret hlk hZ e0
  replace hown : s.vm.findClass "java/util/Arrays" = some m.cls := hown
  replace hml : c.maxLocals = 3 := hml
  show Ends p.tables e below _ (s₁.setTop (mkF m 0 #[.val (.int (3 : Int32)), .val (.int (0 : Int32)), .val (.int (3 : Int32))] []))
  refine own_iloadN X0 hx hby d6_0 rfl rfl ?_
  refine own_iloadN X0 hx hby d6_1 rfl rfl ?_
  refine own_icmp_le X0 hx hby d6_2 (pcY := 46) (pcN := 5) (by decide) rfl (fun (hc157 : 0 ≤ 3) => ?_) (fun (hc157 : 3 < 0) => False.elim (by exact absurd hc157 (by decide)))
  refine own_iloadN X0 hx hby d6_46 rfl rfl ?_
  refine own_if_ge X0 hx hby d6_47 (pcY := 59) (pcN := 50) (by decide) rfl (fun (hc158 : 0 ≤ 0) => ?_) (fun (hc158 : 0 < 0) => False.elim (by exact absurd hc158 (by decide)))
  refine own_iloadN X0 hx hby d6_59 rfl rfl ?_
  refine own_iloadN X0 hx hby d6_60 rfl rfl ?_
  refine own_icmp_le X0 hx hby d6_61 (pcY := 73) (pcN := 64) (by decide) rfl (fun (hc159 : 3 ≤ 3) => ?_) (fun (hc159 : 3 < 3) => False.elim (by exact absurd hc159 (by decide)))
  refine own_retV X0 hx hby hret hlk d6_73 (by decide) (by decide) ?_
  exact ⟨rfl, rfl, e0⟩
set_option maxRecDepth 65536 in
set_option maxHeartbeats 40000000 in
theorem rm5 (l : Launch) (Z : State) (a0 : Array Value) (hw : ∀ d ∈ tables_1, d.before a0 Z = true) (x0 : Addr) (x3 : Int64) (h0 : Heap) (n0 : Nat) {k : ClassId} {w0 w1 w2 : Int64} (gx : n0 ≤ x0) (A : Arv Z h0 x0 k .long (3 : Int32) [(.long w0), (.long w1), (.long w2)] (.long 0)) :
    OwnMet l Z (⟨"java/util/Arrays", "fill", "([JIIJ)V"⟩ : MethodName) jdk_65_method_102_code 6 none [] ({ frames := 1, cells := 0, slots := 0, locals := 14 } : Room) #[(.ref x0), (.int (0 : Int32)), (.int (3 : Int32)), (.long x3)] h0 (fun v h L => v = none ∧ Fr n0 L ∧ Keep h0 h [x0] ∧ Arv Z h x0 k .long (3 : Int32) [(.long x3), (.long x3), (.long x3)] (.long 0)) := by
  refine own_body (plainFor_of_name pn_0) (fun m => ef_5 m x0 x3) ?_
  intro p e s m below meth c s₁ X0 hx hby hml hown hnm hret hlk hZ e0
  replace hown : s.vm.findClass "java/util/Arrays" = some m.cls := hown
  replace hml : c.maxLocals = 6 := hml
  have N0 := Fr.nil n0
  show Ends p.tables e below _ (s₁.setTop (mkF m 0 #[.val (.ref x0), .val (.int (0 : Int32)), .val (.int (3 : Int32)), .val (.long x3), .second, .unset] []))
  refine own_aloadN X0 hx hby d5_0 rfl rfl rfl ?_
  refine own_arraylength X0 hx hby hZ e0 A d5_1 rfl ?_
  refine own_iloadN X0 hx hby d5_2 rfl rfl ?_
  refine own_iloadN X0 hx hby d5_3 rfl rfl ?_
  refine own_static X0 hx hby hZ (argsL := [(.int (3 : Int32)), (.int (0 : Int32)), (.int (3 : Int32))]) (rest := []) hown (hw _ tw_43) (hw _ tw_44) (hw _ tw_41) (hw _ tw_45) (by decide) (rmrc l Z a0 hw h0) e0 (by rw [hml]; rfl) pd_0 rfl (by decide) (W := 0) (Nat.le_refl _) (by decide) (by decide) (by decide) d5_4 rfl rfl (fun v160 T160 L160 X160 hQ160 => ?_)
  obtain ⟨rfl, rfl, e160⟩ := hQ160
  show Ends p.tables e below _ (T160.setTop (mkF m 7 #[.val (.ref x0), .val (.int (0 : Int32)), .val (.int (3 : Int32)), .val (.long x3), .second, .unset] []))
  refine own_iloadN X160 hx hby d5_7 rfl rfl ?_
  refine own_istore X160 hx hby d5_8 rfl #[.val (.ref x0), .val (.int (0 : Int32)), .val (.int (3 : Int32)), .val (.long x3), .second, .val (.int (0 : Int32))] rfl ?_
  refine own_iload X160 hx hby d5_10 rfl rfl ?_
  refine own_iloadN X160 hx hby d5_12 rfl rfl ?_
  refine own_icmp_ge X160 hx hby d5_13 (pcY := 27) (pcN := 16) (by decide) rfl (fun (hc161 : 3 ≤ 0) => False.elim (by exact absurd hc161 (by decide))) (fun (hc161 : 0 < 3) => ?_)
  refine own_aloadN X160 hx hby d5_16 rfl rfl rfl ?_
  refine own_iload X160 hx hby d5_17 rfl rfl ?_
  refine own_lloadN X160 hx hby d5_19 rfl rfl ?_
  refine own_lastore X160 hx hby hZ x3 rfl e160 A (by decide) 0 rfl (show 0 < 3 by decide) [(.long x3), (.long w1), (.long w2)] rfl rfl (Fr.app N0 (Fr.nil _)) gx d5_20 rfl (fun T162 h162 L162 X162 e162 W162 V162 N162 => ?_)
  refine own_iinc X162 hx hby d5_21 rfl (1 : Int32) rfl #[.val (.ref x0), .val (.int (0 : Int32)), .val (.int (3 : Int32)), .val (.long x3), .second, .val (.int (1 : Int32))] rfl rfl ?_
  refine own_goto X162 hx hby d5_24 (pc' := 10) (by decide) ?_
  refine own_iload X162 hx hby d5_10 rfl rfl ?_
  refine own_iloadN X162 hx hby d5_12 rfl rfl ?_
  refine own_icmp_ge X162 hx hby d5_13 (pcY := 27) (pcN := 16) (by decide) rfl (fun (hc163 : 3 ≤ 1) => False.elim (by exact absurd hc163 (by decide))) (fun (hc163 : 1 < 3) => ?_)
  refine own_aloadN X162 hx hby d5_16 rfl rfl rfl ?_
  refine own_iload X162 hx hby d5_17 rfl rfl ?_
  refine own_lloadN X162 hx hby d5_19 rfl rfl ?_
  refine own_lastore X162 hx hby hZ x3 rfl e162 V162 (by decide) 1 rfl (show 1 < 3 by decide) [(.long x3), (.long x3), (.long w2)] rfl rfl N162 gx d5_20 rfl (fun T164 h164 L164 X164 e164 W164 V164 N164 => ?_)
  refine own_iinc X164 hx hby d5_21 rfl (1 : Int32) rfl #[.val (.ref x0), .val (.int (0 : Int32)), .val (.int (3 : Int32)), .val (.long x3), .second, .val (.int (2 : Int32))] rfl rfl ?_
  refine own_goto X164 hx hby d5_24 (pc' := 10) (by decide) ?_
  refine own_iload X164 hx hby d5_10 rfl rfl ?_
  refine own_iloadN X164 hx hby d5_12 rfl rfl ?_
  refine own_icmp_ge X164 hx hby d5_13 (pcY := 27) (pcN := 16) (by decide) rfl (fun (hc165 : 3 ≤ 2) => False.elim (by exact absurd hc165 (by decide))) (fun (hc165 : 2 < 3) => ?_)
  refine own_aloadN X164 hx hby d5_16 rfl rfl rfl ?_
  refine own_iload X164 hx hby d5_17 rfl rfl ?_
  refine own_lloadN X164 hx hby d5_19 rfl rfl ?_
  refine own_lastore X164 hx hby hZ x3 rfl e164 V164 (by decide) 2 rfl (show 2 < 3 by decide) [(.long x3), (.long x3), (.long x3)] rfl rfl N164 gx d5_20 rfl (fun T166 h166 L166 X166 e166 W166 V166 N166 => ?_)
  refine own_iinc X166 hx hby d5_21 rfl (1 : Int32) rfl #[.val (.ref x0), .val (.int (0 : Int32)), .val (.int (3 : Int32)), .val (.long x3), .second, .val (.int (3 : Int32))] rfl rfl ?_
  refine own_goto X166 hx hby d5_24 (pc' := 10) (by decide) ?_
  refine own_iload X166 hx hby d5_10 rfl rfl ?_
  refine own_iloadN X166 hx hby d5_12 rfl rfl ?_
  refine own_icmp_ge X166 hx hby d5_13 (pcY := 27) (pcN := 16) (by decide) rfl (fun (hc167 : 3 ≤ 3) => ?_) (fun (hc167 : 3 < 3) => False.elim (by exact absurd hc167 (by decide)))
  refine own_retV X166 hx hby hret hlk d5_27 (by decide) (by decide) ?_
  have f168 := ((((Keep.refl h0 [x0]).wr W162 (Or.inl (by simp))).wr W164 (Or.inl (by simp))).wr W166 (Or.inl (by simp)))
  rw [e166]
  exact ⟨rfl, N166, f168, V166⟩
set_option maxRecDepth 65536 in
set_option maxHeartbeats 40000000 in
theorem rm7 (l : Launch) (Z : State) (a0 : Array Value) (hw : ∀ d ∈ tables_1, d.before a0 Z = true) (x0 : Addr) (h0 : Heap) (n0 : Nat) {k : ClassId} {w0 w1 w2 : Int32} (gx : n0 ≤ x0) (A : Arv Z h0 x0 k .int (3 : Int32) [(.int w0), (.int w1), (.int w2)] (.int 0)) :
    OwnMet l Z (⟨"java/util/Arrays", "fill", "([IIII)V"⟩ : MethodName) jdk_65_method_104_code 5 none [] ({ frames := 1, cells := 0, slots := 0, locals := 14 } : Room) #[(.ref x0), (.int (0 : Int32)), (.int (3 : Int32)), (.int (0 : Int32))] h0 (fun v h L => v = none ∧ Fr n0 L ∧ Keep h0 h [x0] ∧ Arv Z h x0 k .int (3 : Int32) [(.int (0 : Int32)), (.int (0 : Int32)), (.int (0 : Int32))] (.int 0)) := by
  refine own_body (plainFor_of_name pn_0) (fun m => ef_7 m x0) ?_
  intro p e s m below meth c s₁ X0 hx hby hml hown hnm hret hlk hZ e0
  replace hown : s.vm.findClass "java/util/Arrays" = some m.cls := hown
  replace hml : c.maxLocals = 5 := hml
  have N0 := Fr.nil n0
  show Ends p.tables e below _ (s₁.setTop (mkF m 0 #[.val (.ref x0), .val (.int (0 : Int32)), .val (.int (3 : Int32)), .val (.int (0 : Int32)), .unset] []))
  refine own_aloadN X0 hx hby d7_0 rfl rfl rfl ?_
  refine own_arraylength X0 hx hby hZ e0 A d7_1 rfl ?_
  refine own_iloadN X0 hx hby d7_2 rfl rfl ?_
  refine own_iloadN X0 hx hby d7_3 rfl rfl ?_
  refine own_static X0 hx hby hZ (argsL := [(.int (3 : Int32)), (.int (0 : Int32)), (.int (3 : Int32))]) (rest := []) hown (hw _ tw_43) (hw _ tw_44) (hw _ tw_41) (hw _ tw_45) (by decide) (rmrc l Z a0 hw h0) e0 (by rw [hml]; rfl) pd_0 rfl (by decide) (W := 0) (Nat.le_refl _) (by decide) (by decide) (by decide) d7_4 rfl rfl (fun v169 T169 L169 X169 hQ169 => ?_)
  obtain ⟨rfl, rfl, e169⟩ := hQ169
  show Ends p.tables e below _ (T169.setTop (mkF m 7 #[.val (.ref x0), .val (.int (0 : Int32)), .val (.int (3 : Int32)), .val (.int (0 : Int32)), .unset] []))
  refine own_iloadN X169 hx hby d7_7 rfl rfl ?_
  refine own_istore X169 hx hby d7_8 rfl #[.val (.ref x0), .val (.int (0 : Int32)), .val (.int (3 : Int32)), .val (.int (0 : Int32)), .val (.int (0 : Int32))] rfl ?_
  refine own_iload X169 hx hby d7_10 rfl rfl ?_
  refine own_iloadN X169 hx hby d7_12 rfl rfl ?_
  refine own_icmp_ge X169 hx hby d7_13 (pcY := 27) (pcN := 16) (by decide) rfl (fun (hc170 : 3 ≤ 0) => False.elim (by exact absurd hc170 (by decide))) (fun (hc170 : 0 < 3) => ?_)
  refine own_aloadN X169 hx hby d7_16 rfl rfl rfl ?_
  refine own_iload X169 hx hby d7_17 rfl rfl ?_
  refine own_iloadN X169 hx hby d7_19 rfl rfl ?_
  refine own_iastore X169 hx hby hZ (0 : Int32) rfl e169 A (by decide) 0 rfl (show 0 < 3 by decide) [(.int (0 : Int32)), (.int w1), (.int w2)] rfl rfl (Fr.app N0 (Fr.nil _)) gx d7_20 rfl (fun T171 h171 L171 X171 e171 W171 V171 N171 => ?_)
  refine own_iinc X171 hx hby d7_21 rfl (1 : Int32) rfl #[.val (.ref x0), .val (.int (0 : Int32)), .val (.int (3 : Int32)), .val (.int (0 : Int32)), .val (.int (1 : Int32))] rfl rfl ?_
  refine own_goto X171 hx hby d7_24 (pc' := 10) (by decide) ?_
  refine own_iload X171 hx hby d7_10 rfl rfl ?_
  refine own_iloadN X171 hx hby d7_12 rfl rfl ?_
  refine own_icmp_ge X171 hx hby d7_13 (pcY := 27) (pcN := 16) (by decide) rfl (fun (hc172 : 3 ≤ 1) => False.elim (by exact absurd hc172 (by decide))) (fun (hc172 : 1 < 3) => ?_)
  refine own_aloadN X171 hx hby d7_16 rfl rfl rfl ?_
  refine own_iload X171 hx hby d7_17 rfl rfl ?_
  refine own_iloadN X171 hx hby d7_19 rfl rfl ?_
  refine own_iastore X171 hx hby hZ (0 : Int32) rfl e171 V171 (by decide) 1 rfl (show 1 < 3 by decide) [(.int (0 : Int32)), (.int (0 : Int32)), (.int w2)] rfl rfl N171 gx d7_20 rfl (fun T173 h173 L173 X173 e173 W173 V173 N173 => ?_)
  refine own_iinc X173 hx hby d7_21 rfl (1 : Int32) rfl #[.val (.ref x0), .val (.int (0 : Int32)), .val (.int (3 : Int32)), .val (.int (0 : Int32)), .val (.int (2 : Int32))] rfl rfl ?_
  refine own_goto X173 hx hby d7_24 (pc' := 10) (by decide) ?_
  refine own_iload X173 hx hby d7_10 rfl rfl ?_
  refine own_iloadN X173 hx hby d7_12 rfl rfl ?_
  refine own_icmp_ge X173 hx hby d7_13 (pcY := 27) (pcN := 16) (by decide) rfl (fun (hc174 : 3 ≤ 2) => False.elim (by exact absurd hc174 (by decide))) (fun (hc174 : 2 < 3) => ?_)
  refine own_aloadN X173 hx hby d7_16 rfl rfl rfl ?_
  refine own_iload X173 hx hby d7_17 rfl rfl ?_
  refine own_iloadN X173 hx hby d7_19 rfl rfl ?_
  refine own_iastore X173 hx hby hZ (0 : Int32) rfl e173 V173 (by decide) 2 rfl (show 2 < 3 by decide) [(.int (0 : Int32)), (.int (0 : Int32)), (.int (0 : Int32))] rfl rfl N173 gx d7_20 rfl (fun T175 h175 L175 X175 e175 W175 V175 N175 => ?_)
  refine own_iinc X175 hx hby d7_21 rfl (1 : Int32) rfl #[.val (.ref x0), .val (.int (0 : Int32)), .val (.int (3 : Int32)), .val (.int (0 : Int32)), .val (.int (3 : Int32))] rfl rfl ?_
  refine own_goto X175 hx hby d7_24 (pc' := 10) (by decide) ?_
  refine own_iload X175 hx hby d7_10 rfl rfl ?_
  refine own_iloadN X175 hx hby d7_12 rfl rfl ?_
  refine own_icmp_ge X175 hx hby d7_13 (pcY := 27) (pcN := 16) (by decide) rfl (fun (hc176 : 3 ≤ 3) => ?_) (fun (hc176 : 3 < 3) => False.elim (by exact absurd hc176 (by decide)))
  refine own_retV X175 hx hby hret hlk d7_27 (by decide) (by decide) ?_
  have f177 := ((((Keep.refl h0 [x0]).wr W171 (Or.inl (by simp))).wr W173 (Or.inl (by simp))).wr W175 (Or.inl (by simp)))
  rw [e175]
  exact ⟨rfl, N175, f177, V175⟩
set_option maxRecDepth 65536 in
set_option maxHeartbeats 40000000 in
theorem rm9 (l : Launch) (Z : State) (a0 : Array Value) (hw : ∀ d ∈ tables_1, d.before a0 Z = true) (x0 : Addr) (h0 : Heap) (n0 : Nat) {k : ClassId} {w0 w1 w2 : Int32} (gx : n0 ≤ x0) (A : Arv Z h0 x0 k .boolean (3 : Int32) [(.int w0), (.int w1), (.int w2)] (.int 0)) :
    OwnMet l Z (⟨"java/util/Arrays", "fill", "([ZIIZ)V"⟩ : MethodName) jdk_65_method_112_code 5 none [] ({ frames := 1, cells := 0, slots := 0, locals := 14 } : Room) #[(.ref x0), (.int (0 : Int32)), (.int (3 : Int32)), (.int (0 : Int32))] h0 (fun v h L => v = none ∧ Fr n0 L ∧ Keep h0 h [x0] ∧ Arv Z h x0 k .boolean (3 : Int32) [(.int (0 : Int32)), (.int (0 : Int32)), (.int (0 : Int32))] (.int 0)) := by
  refine own_body (plainFor_of_name pn_0) (fun m => ef_9 m x0) ?_
  intro p e s m below meth c s₁ X0 hx hby hml hown hnm hret hlk hZ e0
  replace hown : s.vm.findClass "java/util/Arrays" = some m.cls := hown
  replace hml : c.maxLocals = 5 := hml
  have N0 := Fr.nil n0
  show Ends p.tables e below _ (s₁.setTop (mkF m 0 #[.val (.ref x0), .val (.int (0 : Int32)), .val (.int (3 : Int32)), .val (.int (0 : Int32)), .unset] []))
  refine own_aloadN X0 hx hby d9_0 rfl rfl rfl ?_
  refine own_arraylength X0 hx hby hZ e0 A d9_1 rfl ?_
  refine own_iloadN X0 hx hby d9_2 rfl rfl ?_
  refine own_iloadN X0 hx hby d9_3 rfl rfl ?_
  refine own_static X0 hx hby hZ (argsL := [(.int (3 : Int32)), (.int (0 : Int32)), (.int (3 : Int32))]) (rest := []) hown (hw _ tw_43) (hw _ tw_44) (hw _ tw_41) (hw _ tw_45) (by decide) (rmrc l Z a0 hw h0) e0 (by rw [hml]; rfl) pd_0 rfl (by decide) (W := 0) (Nat.le_refl _) (by decide) (by decide) (by decide) d9_4 rfl rfl (fun v178 T178 L178 X178 hQ178 => ?_)
  obtain ⟨rfl, rfl, e178⟩ := hQ178
  show Ends p.tables e below _ (T178.setTop (mkF m 7 #[.val (.ref x0), .val (.int (0 : Int32)), .val (.int (3 : Int32)), .val (.int (0 : Int32)), .unset] []))
  refine own_iloadN X178 hx hby d9_7 rfl rfl ?_
  refine own_istore X178 hx hby d9_8 rfl #[.val (.ref x0), .val (.int (0 : Int32)), .val (.int (3 : Int32)), .val (.int (0 : Int32)), .val (.int (0 : Int32))] rfl ?_
  refine own_iload X178 hx hby d9_10 rfl rfl ?_
  refine own_iloadN X178 hx hby d9_12 rfl rfl ?_
  refine own_icmp_ge X178 hx hby d9_13 (pcY := 27) (pcN := 16) (by decide) rfl (fun (hc179 : 3 ≤ 0) => False.elim (by exact absurd hc179 (by decide))) (fun (hc179 : 0 < 3) => ?_)
  refine own_aloadN X178 hx hby d9_16 rfl rfl rfl ?_
  refine own_iload X178 hx hby d9_17 rfl rfl ?_
  refine own_iloadN X178 hx hby d9_19 rfl rfl ?_
  refine own_zastore X178 hx hby hZ (0 : Int32) rfl e178 A (by decide) 0 rfl (show 0 < 3 by decide) [(.int (0 : Int32)), (.int w1), (.int w2)] rfl rfl (Fr.app N0 (Fr.nil _)) gx d9_20 rfl (fun T180 h180 L180 X180 e180 W180 V180 N180 => ?_)
  refine own_iinc X180 hx hby d9_21 rfl (1 : Int32) rfl #[.val (.ref x0), .val (.int (0 : Int32)), .val (.int (3 : Int32)), .val (.int (0 : Int32)), .val (.int (1 : Int32))] rfl rfl ?_
  refine own_goto X180 hx hby d9_24 (pc' := 10) (by decide) ?_
  refine own_iload X180 hx hby d9_10 rfl rfl ?_
  refine own_iloadN X180 hx hby d9_12 rfl rfl ?_
  refine own_icmp_ge X180 hx hby d9_13 (pcY := 27) (pcN := 16) (by decide) rfl (fun (hc181 : 3 ≤ 1) => False.elim (by exact absurd hc181 (by decide))) (fun (hc181 : 1 < 3) => ?_)
  refine own_aloadN X180 hx hby d9_16 rfl rfl rfl ?_
  refine own_iload X180 hx hby d9_17 rfl rfl ?_
  refine own_iloadN X180 hx hby d9_19 rfl rfl ?_
  refine own_zastore X180 hx hby hZ (0 : Int32) rfl e180 V180 (by decide) 1 rfl (show 1 < 3 by decide) [(.int (0 : Int32)), (.int (0 : Int32)), (.int w2)] rfl rfl N180 gx d9_20 rfl (fun T182 h182 L182 X182 e182 W182 V182 N182 => ?_)
  refine own_iinc X182 hx hby d9_21 rfl (1 : Int32) rfl #[.val (.ref x0), .val (.int (0 : Int32)), .val (.int (3 : Int32)), .val (.int (0 : Int32)), .val (.int (2 : Int32))] rfl rfl ?_
  refine own_goto X182 hx hby d9_24 (pc' := 10) (by decide) ?_
  refine own_iload X182 hx hby d9_10 rfl rfl ?_
  refine own_iloadN X182 hx hby d9_12 rfl rfl ?_
  refine own_icmp_ge X182 hx hby d9_13 (pcY := 27) (pcN := 16) (by decide) rfl (fun (hc183 : 3 ≤ 2) => False.elim (by exact absurd hc183 (by decide))) (fun (hc183 : 2 < 3) => ?_)
  refine own_aloadN X182 hx hby d9_16 rfl rfl rfl ?_
  refine own_iload X182 hx hby d9_17 rfl rfl ?_
  refine own_iloadN X182 hx hby d9_19 rfl rfl ?_
  refine own_zastore X182 hx hby hZ (0 : Int32) rfl e182 V182 (by decide) 2 rfl (show 2 < 3 by decide) [(.int (0 : Int32)), (.int (0 : Int32)), (.int (0 : Int32))] rfl rfl N182 gx d9_20 rfl (fun T184 h184 L184 X184 e184 W184 V184 N184 => ?_)
  refine own_iinc X184 hx hby d9_21 rfl (1 : Int32) rfl #[.val (.ref x0), .val (.int (0 : Int32)), .val (.int (3 : Int32)), .val (.int (0 : Int32)), .val (.int (3 : Int32))] rfl rfl ?_
  refine own_goto X184 hx hby d9_24 (pc' := 10) (by decide) ?_
  refine own_iload X184 hx hby d9_10 rfl rfl ?_
  refine own_iloadN X184 hx hby d9_12 rfl rfl ?_
  refine own_icmp_ge X184 hx hby d9_13 (pcY := 27) (pcN := 16) (by decide) rfl (fun (hc185 : 3 ≤ 3) => ?_) (fun (hc185 : 3 < 3) => False.elim (by exact absurd hc185 (by decide)))
  refine own_retV X184 hx hby hret hlk d9_27 (by decide) (by decide) ?_
  have f186 := ((((Keep.refl h0 [x0]).wr W180 (Or.inl (by simp))).wr W182 (Or.inl (by simp))).wr W184 (Or.inl (by simp)))
  rw [e184]
  exact ⟨rfl, N184, f186, V184⟩
set_option maxRecDepth 65536 in
set_option maxHeartbeats 40000000 in
theorem rmaug1 (l : Launch) (Z : State) (a0 : Array Value) (hw : ∀ d ∈ tables_1, d.before a0 Z = true) (x : Addr) (h0 : Heap) (n0 : Nat) {cs r0 r1 up vp ho pr re dn : Addr} {kc k0 k1 ku kv kh kp kr kd : ClassId} {ca cb cc cd : Int64} {Q0 Q1 Q2 : Int64} {P0 P1 P2 D0 D1 D2 : Int32} (ord : OwnOrd n0 x cs r0 r1 up vp ho pr re dn) (B : OwnB Z h0 x cs r0 r1 up vp ho pr re dn kc k0 k1 ca cb cc cd) (Aup : Arv Z h0 up ku .long (3 : Int32) [(.long (0 : Int64)), (.long (0 : Int64)), (.long (0 : Int64))] (.long 0)) (Avp : Arv Z h0 vp kv .long (3 : Int32) [(.long (0 : Int64)), (.long (0 : Int64)), (.long (0 : Int64))] (.long 0)) (Aho : Arv Z h0 ho kh .int (3 : Int32) [(.int (0 : Int32)), (.int (0 : Int32)), (.int (0 : Int32))] (.int 0)) (Apr : Arv Z h0 pr kp .int (3 : Int32) [(.int P0), (.int P1), (.int P2)] (.int 0)) (Are : Arv Z h0 re kr .long (3 : Int32) [(.long Q0), (.long Q1), (.long Q2)] (.long 0)) (Adn : Arv Z h0 dn kd .boolean (3 : Int32) [(.int D0), (.int D1), (.int D2)] (.int 0)) (h_ca : OwnCost ca) (h_cb : OwnCost cb) (h_cc : OwnCost cc) (h_cd : OwnCost cd) (hn_cacb : ¬ (ca.toInt = 9223372036854775807 ∧ cb.toInt = 9223372036854775807)) (hn_cccd : ¬ (cc.toInt = 9223372036854775807 ∧ cd.toInt = 9223372036854775807)) :
    OwnMet l Z (⟨"com/example/weftwork/weftwork/algorithm/Assignment", "augment", "(II)Z"⟩ : MethodName) prog_3_method_7_code 14 (some .boolean) [] ({ frames := 2, cells := 0, slots := 0, locals := 31 } : Room) #[(.ref x), (.int (1 : Int32)), (.int (2 : Int32))] h0 (fun v h L => ∃ (U W : Int64) (H1 H2 P0 P1 P2 : Int32) (Q0 Q1 Q2 : Int64) (D0 D1 D2 : Int32), v = some (.int 1) ∧ Fr n0 L ∧ OwnB Z h x cs r0 r1 up vp ho pr re dn kc k0 k1 ca cb cc cd ∧ Arv Z h up ku .long (3 : Int32) [(.long (0 : Int64)), (.long U), (.long (0 : Int64))] (.long 0) ∧ Arv Z h vp kv .long (3 : Int32) [(.long W), (.long (0 : Int64)), (.long (0 : Int64))] (.long 0) ∧ Arv Z h ho kh .int (3 : Int32) [(.int (1 : Int32)), (.int H1), (.int H2)] (.int 0) ∧ Arv Z h pr kp .int (3 : Int32) [(.int P0), (.int P1), (.int P2)] (.int 0) ∧ Arv Z h re kr .long (3 : Int32) [(.long Q0), (.long Q1), (.long Q2)] (.long 0) ∧ Arv Z h dn kd .boolean (3 : Int32) [(.int D0), (.int D1), (.int D2)] (.int 0) ∧ (0 ≤ U.toInt ∧ U.toInt < 1152921504606846976) ∧ W.toInt = -U.toInt ∧ ((H1 = 1 ∧ H2 = 0 ∧ ca.toInt ≠ 9223372036854775807 ∧ U.toInt = ca.toInt ∧ (cb.toInt = 9223372036854775807 ∨ ca.toInt ≤ cb.toInt)) ∨ (H1 = 0 ∧ H2 = 1 ∧ cb.toInt ≠ 9223372036854775807 ∧ U.toInt = cb.toInt ∧ (ca.toInt = 9223372036854775807 ∨ cb.toInt ≤ ca.toInt)))) := by
  refine own_body (plainFor_of_name pn_1) (fun m => ef_aug1 m x) ?_
  intro p e s m below meth c s₁ X0 hx hby hml hown hnm hret hlk hZ e0
  replace hown : s.vm.findClass "com/example/weftwork/weftwork/algorithm/Assignment" = some m.cls := hown
  replace hml : c.maxLocals = 14 := hml
  have N0 := Fr.nil n0
  show Ends p.tables e below _ (s₁.setTop (mkF m 0 #[.val (.ref x), .val (.int (1 : Int32)), .val (.int (2 : Int32)), .unset, .unset, .unset, .unset, .unset, .unset, .unset, .unset, .unset, .unset, .unset] []))
  have k0 : (0 : Int64).toInt = 0 := rfl
  have kN := own_iN
  have i0 : (0 : Int32).toInt = 0 := rfl
  have i1 : (1 : Int32).toInt = 1 := rfl
  have i2 : (2 : Int32).toInt = 2 := rfl
  show Ends p.tables e below _ (s₁.setTop (mkF m 0 #[.val (.ref x), .val (.int (1 : Int32)), .val (.int (2 : Int32)), .unset, .unset, .unset, .unset, .unset, .unset, .unset, .unset, .unset, .unset, .unset] []))
  refine own_aloadN X0 hx hby d8_0 rfl rfl rfl ?_
  refine own_getfield X0 hx hby hZ hown (host := "") (Or.inl (hw _ tw_20)) Via.refl e0 (B_holder B) d8_1 rfl (fun T187 X187 e187 => ?_)
  refine own_iconst X187 hx hby d8_4 rfl (0 : Int32) rfl ?_
  refine own_iloadN X187 hx hby d8_5 rfl rfl ?_
  refine own_iastore X187 hx hby hZ (1 : Int32) rfl e187 Aho (by decide) 0 rfl (show 0 < 3 by decide) [(.int (1 : Int32)), (.int (0 : Int32)), (.int (0 : Int32))] rfl rfl N0 (ge_ho ord) d8_6 rfl (fun T188 h188 L188 X188 e188 W188 V188 N188 => ?_)
  refine own_iconst X188 hx hby d8_7 rfl (0 : Int32) rfl ?_
  refine own_istoreN X188 hx hby d8_8 rfl #[.val (.ref x), .val (.int (1 : Int32)), .val (.int (2 : Int32)), .val (.int (0 : Int32)), .unset, .unset, .unset, .unset, .unset, .unset, .unset, .unset, .unset, .unset] rfl ?_
  refine own_aloadN X188 hx hby d8_9 rfl rfl rfl ?_
  have f189 := (own_Bw B W188 (ne_x_ho ord) (ne_cs_ho ord) (ne_r0_ho ord) (ne_r1_ho ord))
  refine own_getfield X188 hx hby hZ hown (host := "") (Or.inl (hw _ tw_24)) Via.refl e188 (B_reach f189) d8_10 rfl (fun T190 X190 e190 => ?_)
  refine own_iconst X190 hx hby d8_13 rfl (0 : Int32) rfl ?_
  refine own_iloadN X190 hx hby d8_14 rfl rfl ?_
  refine own_iconst X190 hx hby d8_15 rfl (1 : Int32) rfl ?_
  refine own_iadd X190 hx hby d8_16 rfl ?_
  show Ends p.tables e below _ (T190.setTop (mkF m 17 #[.val (.ref x), .val (.int (1 : Int32)), .val (.int (2 : Int32)), .val (.int (0 : Int32)), .unset, .unset, .unset, .unset, .unset, .unset, .unset, .unset, .unset, .unset] [(.int (3 : Int32)), (.int (0 : Int32)), (.ref re)]))
  refine own_ldc2J X190 hx hby hZ hown (hw _ tw_53) d8_17 rfl ?_
  have f192 := (Are.other W188 (ne_re_ho ord))
  refine own_static X190 hx hby hZ (argsL := [(.ref re), (.int (0 : Int32)), (.int (3 : Int32)), (.long (9223372036854775807 : Int64))]) (rest := []) hown (hw _ tw_39) (hw _ tw_40) (hw _ tw_41) (hw _ tw_42) (by decide) (rm5 l Z a0 hw re (9223372036854775807 : Int64) h188 n0 (ge_re ord) f192) e190 (by rw [hml]; rfl) pd_1 rfl (by decide) (W := 0) (Nat.le_refl _) (by decide) (by decide) (by decide) d8_20 rfl rfl (fun v191 T191 L191 X191 hQ191 => ?_)
  obtain ⟨rfl, N191q, K191, V191⟩ := hQ191
  show Ends p.tables e below _ (T191.setTop (mkF m 23 #[.val (.ref x), .val (.int (1 : Int32)), .val (.int (2 : Int32)), .val (.int (0 : Int32)), .unset, .unset, .unset, .unset, .unset, .unset, .unset, .unset, .unset, .unset] []))
  refine own_aloadN X191 hx hby d8_23 rfl rfl rfl ?_
  have f193 := (own_Bk f189 K191 (ne_x_re ord) (ne_cs_re ord) (ne_r0_re ord) (ne_r1_re ord))
  refine own_getfield X191 hx hby hZ hown (host := "") (Or.inl (hw _ tw_27)) Via.refl rfl (B_done f193) d8_24 rfl (fun T194 X194 e194 => ?_)
  refine own_iconst X194 hx hby d8_27 rfl (0 : Int32) rfl ?_
  refine own_iloadN X194 hx hby d8_28 rfl rfl ?_
  refine own_iconst X194 hx hby d8_29 rfl (1 : Int32) rfl ?_
  refine own_iadd X194 hx hby d8_30 rfl ?_
  show Ends p.tables e below _ (T194.setTop (mkF m 31 #[.val (.ref x), .val (.int (1 : Int32)), .val (.int (2 : Int32)), .val (.int (0 : Int32)), .unset, .unset, .unset, .unset, .unset, .unset, .unset, .unset, .unset, .unset] [(.int (3 : Int32)), (.int (0 : Int32)), (.ref dn)]))
  refine own_iconst X194 hx hby d8_31 rfl (0 : Int32) rfl ?_
  have f196 := ((Adn.other W188 (ne_dn_ho ord)).keep K191 (ninS (ne_dn_re ord) nin0))
  refine own_static X194 hx hby hZ (argsL := [(.ref dn), (.int (0 : Int32)), (.int (3 : Int32)), (.int (0 : Int32))]) (rest := []) hown (hw _ tw_54) (hw _ tw_55) (hw _ tw_41) (hw _ tw_56) (by decide) (rm9 l Z a0 hw dn T191.heap n0 (ge_dn ord) f196) e194 (by rw [hml]; rfl) pd_2 rfl (by decide) (W := 0) (Nat.le_refl _) (by decide) (by decide) (by decide) d8_32 rfl rfl (fun v195 T195 L195 X195 hQ195 => ?_)
  obtain ⟨rfl, N195q, K195, V195⟩ := hQ195
  show Ends p.tables e below _ (T195.setTop (mkF m 35 #[.val (.ref x), .val (.int (1 : Int32)), .val (.int (2 : Int32)), .val (.int (0 : Int32)), .unset, .unset, .unset, .unset, .unset, .unset, .unset, .unset, .unset, .unset] []))
  refine own_aloadN X195 hx hby d8_35 rfl rfl rfl ?_
  have f197 := (own_Bk f193 K195 (ne_x_dn ord) (ne_cs_dn ord) (ne_r0_dn ord) (ne_r1_dn ord))
  refine own_getfield X195 hx hby hZ hown (host := "") (Or.inl (hw _ tw_27)) Via.refl rfl (B_done f197) d8_36 rfl (fun T198 X198 e198 => ?_)
  refine own_iloadN X198 hx hby d8_39 rfl rfl ?_
  refine own_iconst X198 hx hby d8_40 rfl (1 : Int32) rfl ?_
  refine own_zastore X198 hx hby hZ (1 : Int32) rfl e198 V195 (by decide) 0 rfl (show 0 < 3 by decide) [(.int (1 : Int32)), (.int (0 : Int32)), (.int (0 : Int32))] rfl rfl (Fr.app (Fr.app N188 N191q) N195q) (ge_dn ord) d8_41 rfl (fun T199 h199 L199 X199 e199 W199 V199 N199 => ?_)
  refine own_aloadN X199 hx hby d8_42 rfl rfl rfl ?_
  have f200 := (own_Bw f197 W199 (ne_x_dn ord) (ne_cs_dn ord) (ne_r0_dn ord) (ne_r1_dn ord))
  refine own_getfield X199 hx hby hZ hown (host := "") (Or.inl (hw _ tw_20)) Via.refl e199 (B_holder f200) d8_43 rfl (fun T201 X201 e201 => ?_)
  refine own_iloadN X201 hx hby d8_46 rfl rfl ?_
  have f202 := (((V188.keep K191 (ninS (ne_ho_re ord) nin0)).keep K195 (ninS (ne_ho_dn ord) nin0)).other W199 (ne_ho_dn ord))
  refine own_iaload X201 hx hby hZ (1 : Int32) e201 f202 (by decide) rfl d8_47 rfl ?_
  refine own_istore X201 hx hby d8_48 rfl #[.val (.ref x), .val (.int (1 : Int32)), .val (.int (2 : Int32)), .val (.int (0 : Int32)), .val (.int (1 : Int32)), .unset, .unset, .unset, .unset, .unset, .unset, .unset, .unset, .unset] rfl ?_
  refine own_aloadN X201 hx hby d8_50 rfl rfl rfl ?_
  refine own_getfield X201 hx hby hZ hown (host := "") (Or.inl (hw _ tw_13)) Via.refl e201 (B_costs f200) d8_51 rfl (fun T203 X203 e203 => ?_)
  refine own_iload X203 hx hby d8_54 rfl rfl ?_
  refine own_iconst X203 hx hby d8_56 rfl (1 : Int32) rfl ?_
  refine own_isub X203 hx hby d8_57 rfl ?_
  show Ends p.tables e below _ (T203.setTop (mkF m 58 #[.val (.ref x), .val (.int (1 : Int32)), .val (.int (2 : Int32)), .val (.int (0 : Int32)), .val (.int (1 : Int32)), .unset, .unset, .unset, .unset, .unset, .unset, .unset, .unset, .unset] [(.int (0 : Int32)), (.ref cs)]))
  refine own_aaload X203 hx hby hZ (.ref r0) rfl e203 (B_cs f200) (by decide) rfl d8_58 rfl ?_
  refine own_astore X203 hx hby d8_59 rfl #[.val (.ref x), .val (.int (1 : Int32)), .val (.int (2 : Int32)), .val (.int (0 : Int32)), .val (.int (1 : Int32)), .val (.ref r0), .unset, .unset, .unset, .unset, .unset, .unset, .unset, .unset] rfl rfl ?_
  refine own_ldc2J X203 hx hby hZ hown (hw _ tw_53) d8_61 rfl ?_
  refine own_lstore X203 hx hby d8_64 rfl #[.val (.ref x), .val (.int (1 : Int32)), .val (.int (2 : Int32)), .val (.int (0 : Int32)), .val (.int (1 : Int32)), .val (.ref r0), .val (.long (9223372036854775807 : Int64)), .second, .unset, .unset, .unset, .unset, .unset, .unset] rfl ?_
  refine own_iconst X203 hx hby d8_66 rfl (-1 : Int32) rfl ?_
  refine own_istore X203 hx hby d8_67 rfl #[.val (.ref x), .val (.int (1 : Int32)), .val (.int (2 : Int32)), .val (.int (0 : Int32)), .val (.int (1 : Int32)), .val (.ref r0), .val (.long (9223372036854775807 : Int64)), .second, .val (.int (-1 : Int32)), .unset, .unset, .unset, .unset, .unset] rfl ?_
  refine own_iconst X203 hx hby d8_69 rfl (1 : Int32) rfl ?_
  refine own_istore X203 hx hby d8_70 rfl #[.val (.ref x), .val (.int (1 : Int32)), .val (.int (2 : Int32)), .val (.int (0 : Int32)), .val (.int (1 : Int32)), .val (.ref r0), .val (.long (9223372036854775807 : Int64)), .second, .val (.int (-1 : Int32)), .val (.int (1 : Int32)), .unset, .unset, .unset, .unset] rfl ?_
  have f205 := ((((Aup.other W188 (ne_up_ho ord)).keep K191 (ninS (ne_up_re ord) nin0)).keep K195 (ninS (ne_up_dn ord) nin0)).other W199 (ne_up_dn ord))
  have f206 := ((((Avp.other W188 (ne_vp_ho ord)).keep K191 (ninS (ne_vp_re ord) nin0)).keep K195 (ninS (ne_vp_dn ord) nin0)).other W199 (ne_vp_dn ord))
  have f207 := ((((Apr.other W188 (ne_pr_ho ord)).keep K191 (ninS (ne_pr_re ord) nin0)).keep K195 (ninS (ne_pr_dn ord) nin0)).other W199 (ne_pr_dn ord))
  have f208 := ((V191.keep K195 (ninS (ne_re_dn ord) nin0)).other W199 (ne_re_dn ord))
  refine scan1 hx hby hml hown hZ hw ord f200 f205 f206 f202 f207 f208 V199 (c1 := ca) (c2 := cb) (B_r0 f200) (ne_r0_re ord) (ne_r0_pr ord) (r := (1 : Int32)) (u := (0 : Int64)) (by decide) rfl h_ca own_b0 own_b0 (Or.inl ⟨rfl, rfl⟩) (Or.inl ⟨rfl, rfl⟩) N199 X203 e203 (fun T204 h204 L204 Q204 g204 P204 n204 sa204 sb204 sc204 sd204 X204 e204 N204 B204 Aup204 Avp204 Aho204 Apr204 Are204 Adn204 p10_204 p12_204 rel204 => ?_)
  show Ends p.tables e below _ (T204.setTop (mkF m 72 #[.val (.ref x), .val (.int (1 : Int32)), .val (.int (2 : Int32)), .val (.int (0 : Int32)), .val (.int (1 : Int32)), .val (.ref r0), .val (.long g204), .second, .val (.int n204), .val (.int (2 : Int32)), sa204, sb204, sc204, sd204] []))
  refine scan2 hx hby hml hown hZ hw ord B204 Aup204 Avp204 Aho204 Apr204 Are204 Adn204 (c1 := ca) (c2 := cb) (B_r0 B204) (ne_r0_re ord) (ne_r0_pr ord) (r := (1 : Int32)) (u := (0 : Int64)) (by decide) rfl h_cb own_b0 own_b0 p10_204 p12_204 N204 X204 e204 (fun T209 h209 L209 Q209 g209 P209 n209 sa209 sb209 sc209 sd209 X209 e209 N209 B209 Aup209 Avp209 Aho209 Apr209 Are209 Adn209 p10_209 p12_209 rel209 => ?_)
  show Ends p.tables e below _ (T209.setTop (mkF m 72 #[.val (.ref x), .val (.int (1 : Int32)), .val (.int (2 : Int32)), .val (.int (0 : Int32)), .val (.int (1 : Int32)), .val (.ref r0), .val (.long g209), .second, .val (.int n209), .val (.int (3 : Int32)), sa209, sb209, sc209, sd209] []))
  refine own_iload X209 hx hby d8_72 rfl rfl ?_
  refine own_iloadN X209 hx hby d8_74 rfl rfl ?_
  refine own_icmp_gt X209 hx hby d8_75 (pcY := 191) (pcN := 78) (by decide) rfl (fun (hc210 : 2 < 3) => ?_) (fun (hc210 : 3 ≤ 2) => False.elim (by exact absurd hc210 (by decide)))
  rcases own_selA h_ca h_cb hn_cacb rel204 rel209 with ⟨rfl, rfl, sel211⟩ | ⟨rfl, rfl, sel211⟩
  · -- next 1
    clear rel204 rel209
    have d0 : 0 ≤ g209.toInt ∧ g209.toInt ≤ 1152921504606846976 := by have a1 := h_ca; have a2 := h_cb; have a3 := sel211; omega
    show Ends p.tables e below _ (T209.setTop (mkF m 191 #[.val (.ref x), .val (.int (1 : Int32)), .val (.int (2 : Int32)), .val (.int (0 : Int32)), .val (.int (1 : Int32)), .val (.ref r0), .val (.long g209), .second, .val (.int (1 : Int32)), .val (.int (3 : Int32)), sa209, sb209, sc209, sd209] []))
    refine own_iload X209 hx hby d8_191 rfl rfl ?_
    refine own_if_ge X209 hx hby d8_193 (pcY := 198) (pcN := 196) (by decide) rfl (fun (hc212 : 0 ≤ 1) => ?_) (fun (hc212 : 1 < 0) => False.elim (by exact absurd hc212 (by decide)))
    refine own_iconst X209 hx hby d8_198 rfl (0 : Int32) rfl ?_
    refine own_istore X209 hx hby d8_199 rfl #[.val (.ref x), .val (.int (1 : Int32)), .val (.int (2 : Int32)), .val (.int (0 : Int32)), .val (.int (1 : Int32)), .val (.ref r0), .val (.long g209), .second, .val (.int (1 : Int32)), .val (.int (0 : Int32)), sa209, sb209, sc209, sd209] rfl ?_
    refine upd0_1 hx hby hml hown hZ hw ord B209 Aup209 Avp209 Aho209 Apr209 Are209 Adn209 own_b0 own_b0 d0 N209 X209 e209 (fun T213 h213 L213 U213 V213 X213 e213 N213 B213 Aup213 Avp213 Aho213 Apr213 Are213 Adn213 eu213 ev213 => ?_)
    have bd_U213 : OwnBd U213 := by have a1 := sel211; have bca := h_ca; have bcb := h_cb; have bcc := h_cc; have bcd := h_cd; omega
    have bd_V213 : OwnBd V213 := by have a1 := sel211; have bca := h_ca; have bcb := h_cb; have bcc := h_cc; have bcd := h_cd; omega
    show Ends p.tables e below _ (T213.setTop (mkF m 201 #[.val (.ref x), .val (.int (1 : Int32)), .val (.int (2 : Int32)), .val (.int (0 : Int32)), .val (.int (1 : Int32)), .val (.ref r0), .val (.long g209), .second, .val (.int (1 : Int32)), .val (.int (1 : Int32)), sa209, sb209, sc209, sd209] []))
    refine updn1 hx hby hml hown hZ hw ord B213 Aup213 Avp213 Aho213 Apr213 Are213 Adn213 (by have a1 := sel211; have bca := h_ca; have bcb := h_cb; have bcc := h_cc; have bcd := h_cd; omega) d0 N213 X213 e213 (fun T214 h214 L214 Q214 X214 e214 N214 B214 Aup214 Avp214 Aho214 Apr214 Are214 Adn214 un_1 => ?_)
    show Ends p.tables e below _ (T214.setTop (mkF m 201 #[.val (.ref x), .val (.int (1 : Int32)), .val (.int (2 : Int32)), .val (.int (0 : Int32)), .val (.int (1 : Int32)), .val (.ref r0), .val (.long g209), .second, .val (.int (1 : Int32)), .val (.int (2 : Int32)), sa209, sb209, sc209, sd209] []))
    refine updn2 hx hby hml hown hZ hw ord B214 Aup214 Avp214 Aho214 Apr214 Are214 Adn214 (by have a1 := sel211; have bca := h_ca; have bcb := h_cb; have bcc := h_cc; have bcd := h_cd; omega) d0 N214 X214 e214 (fun T215 h215 L215 Q215 X215 e215 N215 B215 Aup215 Avp215 Aho215 Apr215 Are215 Adn215 un_2 => ?_)
    show Ends p.tables e below _ (T215.setTop (mkF m 201 #[.val (.ref x), .val (.int (1 : Int32)), .val (.int (2 : Int32)), .val (.int (0 : Int32)), .val (.int (1 : Int32)), .val (.ref r0), .val (.long g209), .second, .val (.int (1 : Int32)), .val (.int (3 : Int32)), sa209, sb209, sc209, sd209] []))
    refine own_iload X215 hx hby d8_201 rfl rfl ?_
    refine own_iloadN X215 hx hby d8_203 rfl rfl ?_
    refine own_icmp_gt X215 hx hby d8_204 (pcY := 281) (pcN := 207) (by decide) rfl (fun (hc216 : 2 < 3) => ?_) (fun (hc216 : 3 ≤ 2) => False.elim (by exact absurd hc216 (by decide)))
    refine own_iload X215 hx hby d8_281 rfl rfl ?_
    refine own_istoreN X215 hx hby d8_283 rfl #[.val (.ref x), .val (.int (1 : Int32)), .val (.int (2 : Int32)), .val (.int (1 : Int32)), .val (.int (1 : Int32)), .val (.ref r0), .val (.long g209), .second, .val (.int (1 : Int32)), .val (.int (3 : Int32)), sa209, sb209, sc209, sd209] rfl ?_
    refine own_aloadN X215 hx hby d8_284 rfl rfl rfl ?_
    refine own_getfield X215 hx hby hZ hown (host := "") (Or.inl (hw _ tw_20)) Via.refl e215 (B_holder B215) d8_285 rfl (fun T217 X217 e217 => ?_)
    refine own_iloadN X217 hx hby d8_288 rfl rfl ?_
    refine own_iaload X217 hx hby hZ (0 : Int32) e217 Aho215 (by decide) rfl d8_289 rfl ?_
    refine own_if_ne X217 hx hby d8_290 (pcY := 35) (pcN := 293) (by decide) rfl (fun (hc218 : ¬ (0 : Int32) = (0 : Int32)) => False.elim (by exact absurd hc218 (by decide))) (fun (hc218 : (0 : Int32) = (0 : Int32)) => ?_)
    refine own_iloadN X217 hx hby d8_293 rfl rfl ?_
    refine own_if_eq X217 hx hby d8_294 (pcY := 324) (pcN := 297) (by decide) rfl (fun (hc219 : (1 : Int32) = (0 : Int32)) => False.elim (by exact absurd hc219 (by decide))) (fun (hc219 : ¬ (1 : Int32) = (0 : Int32)) => ?_)
    refine own_aloadN X217 hx hby d8_297 rfl rfl rfl ?_
    refine own_getfield X217 hx hby hZ hown (host := "") (Or.inl (hw _ tw_22)) Via.refl e217 (B_previous B215) d8_298 rfl (fun T220 X220 e220 => ?_)
    refine own_iloadN X220 hx hby d8_301 rfl rfl ?_
    refine own_iaload X220 hx hby hZ (0 : Int32) e220 Apr215 (by decide) rfl d8_302 rfl ?_
    refine own_istore X220 hx hby d8_303 rfl #[.val (.ref x), .val (.int (1 : Int32)), .val (.int (2 : Int32)), .val (.int (1 : Int32)), .val (.int (0 : Int32)), .val (.ref r0), .val (.long g209), .second, .val (.int (1 : Int32)), .val (.int (3 : Int32)), sa209, sb209, sc209, sd209] rfl ?_
    refine own_aloadN X220 hx hby d8_305 rfl rfl rfl ?_
    refine own_getfield X220 hx hby hZ hown (host := "") (Or.inl (hw _ tw_20)) Via.refl e220 (B_holder B215) d8_306 rfl (fun T221 X221 e221 => ?_)
    refine own_iloadN X221 hx hby d8_309 rfl rfl ?_
    refine own_aloadN X221 hx hby d8_310 rfl rfl rfl ?_
    refine own_getfield X221 hx hby hZ hown (host := "") (Or.inl (hw _ tw_20)) Via.refl e221 (B_holder B215) d8_311 rfl (fun T222 X222 e222 => ?_)
    refine own_iload X222 hx hby d8_314 rfl rfl ?_
    refine own_iaload X222 hx hby hZ (1 : Int32) e222 Aho215 (by decide) rfl d8_316 rfl ?_
    refine own_iastore X222 hx hby hZ (1 : Int32) rfl e222 Aho215 (by decide) 1 rfl (show 1 < 3 by decide) [(.int (1 : Int32)), (.int (1 : Int32)), (.int (0 : Int32))] rfl rfl N215 (ge_ho ord) d8_317 rfl (fun T223 h223 L223 X223 e223 W223 V223 N223 => ?_)
    refine own_iload X223 hx hby d8_318 rfl rfl ?_
    refine own_istoreN X223 hx hby d8_320 rfl #[.val (.ref x), .val (.int (1 : Int32)), .val (.int (2 : Int32)), .val (.int (0 : Int32)), .val (.int (0 : Int32)), .val (.ref r0), .val (.long g209), .second, .val (.int (1 : Int32)), .val (.int (3 : Int32)), sa209, sb209, sc209, sd209] rfl ?_
    refine own_goto X223 hx hby d8_321 (pc' := 293) (by decide) ?_
    refine own_iloadN X223 hx hby d8_293 rfl rfl ?_
    refine own_if_eq X223 hx hby d8_294 (pcY := 324) (pcN := 297) (by decide) rfl (fun (hc224 : (0 : Int32) = (0 : Int32)) => ?_) (fun (hc224 : ¬ (0 : Int32) = (0 : Int32)) => False.elim (by exact absurd hc224 (by decide)))
    refine own_iconst X223 hx hby d8_324 rfl (1 : Int32) rfl ?_
    refine own_ret X223 hx hby hret hlk d8_325 (.int (1 : Int32)) rfl (Or.inl ⟨rfl, by simp, _, rfl⟩) (by decide) (by decide) ?_
    have f225 := (own_Bw B215 W223 (ne_x_ho ord) (ne_cs_ho ord) (ne_r0_ho ord) (ne_r1_ho ord))
    have f226 := (Aup215.other W223 (ne_up_ho ord))
    have f227 := (Avp215.other W223 (ne_vp_ho ord))
    have f228 := (Apr215.other W223 (ne_pr_ho ord))
    have f229 := (Are215.other W223 (ne_re_ho ord))
    have f230 := (Adn215.other W223 (ne_dn_ho ord))
    rw [e223]
    refine ⟨U213, V213, (1 : Int32), (0 : Int32), P0, (0 : Int32), P209, (9223372036854775807 : Int64), Q214, Q215, (1 : Int32), (0 : Int32), (0 : Int32), rfl, N223, f225, f226, f227, V223, f228, f229, f230, by have a1 := sel211; have b1 := h_ca; have b2 := h_cb; omega, by omega, ?_⟩
    exact Or.inl ⟨rfl, rfl, by have a1 := sel211; have b1 := h_ca; have b2 := h_cb; omega, by have a1 := sel211; have b1 := h_ca; have b2 := h_cb; omega, by have a1 := sel211; have b1 := h_ca; have b2 := h_cb; omega⟩
  · -- next 2
    clear rel204 rel209
    have d0 : 0 ≤ g209.toInt ∧ g209.toInt ≤ 1152921504606846976 := by have a1 := h_ca; have a2 := h_cb; have a3 := sel211; omega
    show Ends p.tables e below _ (T209.setTop (mkF m 191 #[.val (.ref x), .val (.int (1 : Int32)), .val (.int (2 : Int32)), .val (.int (0 : Int32)), .val (.int (1 : Int32)), .val (.ref r0), .val (.long g209), .second, .val (.int (2 : Int32)), .val (.int (3 : Int32)), sa209, sb209, sc209, sd209] []))
    refine own_iload X209 hx hby d8_191 rfl rfl ?_
    refine own_if_ge X209 hx hby d8_193 (pcY := 198) (pcN := 196) (by decide) rfl (fun (hc231 : 0 ≤ 2) => ?_) (fun (hc231 : 2 < 0) => False.elim (by exact absurd hc231 (by decide)))
    refine own_iconst X209 hx hby d8_198 rfl (0 : Int32) rfl ?_
    refine own_istore X209 hx hby d8_199 rfl #[.val (.ref x), .val (.int (1 : Int32)), .val (.int (2 : Int32)), .val (.int (0 : Int32)), .val (.int (1 : Int32)), .val (.ref r0), .val (.long g209), .second, .val (.int (2 : Int32)), .val (.int (0 : Int32)), sa209, sb209, sc209, sd209] rfl ?_
    refine upd0_1 hx hby hml hown hZ hw ord B209 Aup209 Avp209 Aho209 Apr209 Are209 Adn209 own_b0 own_b0 d0 N209 X209 e209 (fun T232 h232 L232 U232 V232 X232 e232 N232 B232 Aup232 Avp232 Aho232 Apr232 Are232 Adn232 eu232 ev232 => ?_)
    have bd_U232 : OwnBd U232 := by have a1 := sel211; have bca := h_ca; have bcb := h_cb; have bcc := h_cc; have bcd := h_cd; omega
    have bd_V232 : OwnBd V232 := by have a1 := sel211; have bca := h_ca; have bcb := h_cb; have bcc := h_cc; have bcd := h_cd; omega
    show Ends p.tables e below _ (T232.setTop (mkF m 201 #[.val (.ref x), .val (.int (1 : Int32)), .val (.int (2 : Int32)), .val (.int (0 : Int32)), .val (.int (1 : Int32)), .val (.ref r0), .val (.long g209), .second, .val (.int (2 : Int32)), .val (.int (1 : Int32)), sa209, sb209, sc209, sd209] []))
    refine updn1 hx hby hml hown hZ hw ord B232 Aup232 Avp232 Aho232 Apr232 Are232 Adn232 (by have a1 := sel211; have bca := h_ca; have bcb := h_cb; have bcc := h_cc; have bcd := h_cd; omega) d0 N232 X232 e232 (fun T233 h233 L233 Q233 X233 e233 N233 B233 Aup233 Avp233 Aho233 Apr233 Are233 Adn233 un_1 => ?_)
    show Ends p.tables e below _ (T233.setTop (mkF m 201 #[.val (.ref x), .val (.int (1 : Int32)), .val (.int (2 : Int32)), .val (.int (0 : Int32)), .val (.int (1 : Int32)), .val (.ref r0), .val (.long g209), .second, .val (.int (2 : Int32)), .val (.int (2 : Int32)), sa209, sb209, sc209, sd209] []))
    refine updn2 hx hby hml hown hZ hw ord B233 Aup233 Avp233 Aho233 Apr233 Are233 Adn233 (by have a1 := sel211; have bca := h_ca; have bcb := h_cb; have bcc := h_cc; have bcd := h_cd; omega) d0 N233 X233 e233 (fun T234 h234 L234 Q234 X234 e234 N234 B234 Aup234 Avp234 Aho234 Apr234 Are234 Adn234 un_2 => ?_)
    show Ends p.tables e below _ (T234.setTop (mkF m 201 #[.val (.ref x), .val (.int (1 : Int32)), .val (.int (2 : Int32)), .val (.int (0 : Int32)), .val (.int (1 : Int32)), .val (.ref r0), .val (.long g209), .second, .val (.int (2 : Int32)), .val (.int (3 : Int32)), sa209, sb209, sc209, sd209] []))
    refine own_iload X234 hx hby d8_201 rfl rfl ?_
    refine own_iloadN X234 hx hby d8_203 rfl rfl ?_
    refine own_icmp_gt X234 hx hby d8_204 (pcY := 281) (pcN := 207) (by decide) rfl (fun (hc235 : 2 < 3) => ?_) (fun (hc235 : 3 ≤ 2) => False.elim (by exact absurd hc235 (by decide)))
    refine own_iload X234 hx hby d8_281 rfl rfl ?_
    refine own_istoreN X234 hx hby d8_283 rfl #[.val (.ref x), .val (.int (1 : Int32)), .val (.int (2 : Int32)), .val (.int (2 : Int32)), .val (.int (1 : Int32)), .val (.ref r0), .val (.long g209), .second, .val (.int (2 : Int32)), .val (.int (3 : Int32)), sa209, sb209, sc209, sd209] rfl ?_
    refine own_aloadN X234 hx hby d8_284 rfl rfl rfl ?_
    refine own_getfield X234 hx hby hZ hown (host := "") (Or.inl (hw _ tw_20)) Via.refl e234 (B_holder B234) d8_285 rfl (fun T236 X236 e236 => ?_)
    refine own_iloadN X236 hx hby d8_288 rfl rfl ?_
    refine own_iaload X236 hx hby hZ (0 : Int32) e236 Aho234 (by decide) rfl d8_289 rfl ?_
    refine own_if_ne X236 hx hby d8_290 (pcY := 35) (pcN := 293) (by decide) rfl (fun (hc237 : ¬ (0 : Int32) = (0 : Int32)) => False.elim (by exact absurd hc237 (by decide))) (fun (hc237 : (0 : Int32) = (0 : Int32)) => ?_)
    refine own_iloadN X236 hx hby d8_293 rfl rfl ?_
    refine own_if_eq X236 hx hby d8_294 (pcY := 324) (pcN := 297) (by decide) rfl (fun (hc238 : (2 : Int32) = (0 : Int32)) => False.elim (by exact absurd hc238 (by decide))) (fun (hc238 : ¬ (2 : Int32) = (0 : Int32)) => ?_)
    refine own_aloadN X236 hx hby d8_297 rfl rfl rfl ?_
    refine own_getfield X236 hx hby hZ hown (host := "") (Or.inl (hw _ tw_22)) Via.refl e236 (B_previous B234) d8_298 rfl (fun T239 X239 e239 => ?_)
    refine own_iloadN X239 hx hby d8_301 rfl rfl ?_
    refine own_iaload X239 hx hby hZ (0 : Int32) e239 Apr234 (by decide) rfl d8_302 rfl ?_
    refine own_istore X239 hx hby d8_303 rfl #[.val (.ref x), .val (.int (1 : Int32)), .val (.int (2 : Int32)), .val (.int (2 : Int32)), .val (.int (0 : Int32)), .val (.ref r0), .val (.long g209), .second, .val (.int (2 : Int32)), .val (.int (3 : Int32)), sa209, sb209, sc209, sd209] rfl ?_
    refine own_aloadN X239 hx hby d8_305 rfl rfl rfl ?_
    refine own_getfield X239 hx hby hZ hown (host := "") (Or.inl (hw _ tw_20)) Via.refl e239 (B_holder B234) d8_306 rfl (fun T240 X240 e240 => ?_)
    refine own_iloadN X240 hx hby d8_309 rfl rfl ?_
    refine own_aloadN X240 hx hby d8_310 rfl rfl rfl ?_
    refine own_getfield X240 hx hby hZ hown (host := "") (Or.inl (hw _ tw_20)) Via.refl e240 (B_holder B234) d8_311 rfl (fun T241 X241 e241 => ?_)
    refine own_iload X241 hx hby d8_314 rfl rfl ?_
    refine own_iaload X241 hx hby hZ (1 : Int32) e241 Aho234 (by decide) rfl d8_316 rfl ?_
    refine own_iastore X241 hx hby hZ (1 : Int32) rfl e241 Aho234 (by decide) 2 rfl (show 2 < 3 by decide) [(.int (1 : Int32)), (.int (0 : Int32)), (.int (1 : Int32))] rfl rfl N234 (ge_ho ord) d8_317 rfl (fun T242 h242 L242 X242 e242 W242 V242 N242 => ?_)
    refine own_iload X242 hx hby d8_318 rfl rfl ?_
    refine own_istoreN X242 hx hby d8_320 rfl #[.val (.ref x), .val (.int (1 : Int32)), .val (.int (2 : Int32)), .val (.int (0 : Int32)), .val (.int (0 : Int32)), .val (.ref r0), .val (.long g209), .second, .val (.int (2 : Int32)), .val (.int (3 : Int32)), sa209, sb209, sc209, sd209] rfl ?_
    refine own_goto X242 hx hby d8_321 (pc' := 293) (by decide) ?_
    refine own_iloadN X242 hx hby d8_293 rfl rfl ?_
    refine own_if_eq X242 hx hby d8_294 (pcY := 324) (pcN := 297) (by decide) rfl (fun (hc243 : (0 : Int32) = (0 : Int32)) => ?_) (fun (hc243 : ¬ (0 : Int32) = (0 : Int32)) => False.elim (by exact absurd hc243 (by decide)))
    refine own_iconst X242 hx hby d8_324 rfl (1 : Int32) rfl ?_
    refine own_ret X242 hx hby hret hlk d8_325 (.int (1 : Int32)) rfl (Or.inl ⟨rfl, by simp, _, rfl⟩) (by decide) (by decide) ?_
    have f244 := (own_Bw B234 W242 (ne_x_ho ord) (ne_cs_ho ord) (ne_r0_ho ord) (ne_r1_ho ord))
    have f245 := (Aup234.other W242 (ne_up_ho ord))
    have f246 := (Avp234.other W242 (ne_vp_ho ord))
    have f247 := (Apr234.other W242 (ne_pr_ho ord))
    have f248 := (Are234.other W242 (ne_re_ho ord))
    have f249 := (Adn234.other W242 (ne_dn_ho ord))
    rw [e242]
    refine ⟨U232, V232, (0 : Int32), (1 : Int32), P0, P204, (0 : Int32), (9223372036854775807 : Int64), Q233, Q234, (1 : Int32), (0 : Int32), (0 : Int32), rfl, N242, f244, f245, f246, V242, f247, f248, f249, by have a1 := sel211; have b1 := h_ca; have b2 := h_cb; omega, by omega, ?_⟩
    exact Or.inr ⟨rfl, rfl, by have a1 := sel211; have b1 := h_ca; have b2 := h_cb; omega, by have a1 := sel211; have b1 := h_ca; have b2 := h_cb; omega, by have a1 := sel211; have b1 := h_ca; have b2 := h_cb; omega⟩
set_option maxRecDepth 65536 in
set_option maxHeartbeats 40000000 in
theorem rmaug2_1 (l : Launch) (Z : State) (a0 : Array Value) (hw : ∀ d ∈ tables_1, d.before a0 Z = true) (x : Addr) (h0 : Heap) (n0 : Nat) {cs r0 r1 up vp ho pr re dn : Addr} {kc k0 k1 ku kv kh kp kr kd : ClassId} {ca cb cc cd : Int64} {U1 V0 Q0 Q1 Q2 : Int64} {P0 P1 P2 D0 D1 D2 : Int32} (ord : OwnOrd n0 x cs r0 r1 up vp ho pr re dn) (B : OwnB Z h0 x cs r0 r1 up vp ho pr re dn kc k0 k1 ca cb cc cd) (Aup : Arv Z h0 up ku .long (3 : Int32) [(.long (0 : Int64)), (.long U1), (.long (0 : Int64))] (.long 0)) (Avp : Arv Z h0 vp kv .long (3 : Int32) [(.long V0), (.long (0 : Int64)), (.long (0 : Int64))] (.long 0)) (Aho : Arv Z h0 ho kh .int (3 : Int32) [(.int (1 : Int32)), (.int (1 : Int32)), (.int (0 : Int32))] (.int 0)) (Apr : Arv Z h0 pr kp .int (3 : Int32) [(.int P0), (.int P1), (.int P2)] (.int 0)) (Are : Arv Z h0 re kr .long (3 : Int32) [(.long Q0), (.long Q1), (.long Q2)] (.long 0)) (Adn : Arv Z h0 dn kd .boolean (3 : Int32) [(.int D0), (.int D1), (.int D2)] (.int 0)) (h_ca : OwnCost ca) (h_cb : OwnCost cb) (h_cc : OwnCost cc) (h_cd : OwnCost cd) (hn_cacb : ¬ (ca.toInt = 9223372036854775807 ∧ cb.toInt = 9223372036854775807)) (hn_cccd : ¬ (cc.toInt = 9223372036854775807 ∧ cd.toInt = 9223372036854775807)) (hn_ca : ¬ (ca.toInt = 9223372036854775807 ∧ cc.toInt = 9223372036854775807)) (hn_cb : ¬ (cb.toInt = 9223372036854775807 ∧ cd.toInt = 9223372036854775807)) (hn_ad : ¬ (ca.toInt = 9223372036854775807 ∧ cd.toInt = 9223372036854775807)) (hn_bc : ¬ (cb.toInt = 9223372036854775807 ∧ cc.toInt = 9223372036854775807)) (hU : 0 ≤ U1.toInt ∧ U1.toInt < 1152921504606846976) (hV : V0.toInt = -U1.toInt) (hj1 : ca.toInt ≠ 9223372036854775807) (hj2 : U1.toInt = ca.toInt) (hj3 : cb.toInt = 9223372036854775807 ∨ ca.toInt ≤ cb.toInt) :
    OwnMet l Z (⟨"com/example/weftwork/weftwork/algorithm/Assignment", "augment", "(II)Z"⟩ : MethodName) prog_3_method_7_code 14 (some .boolean) [] ({ frames := 2, cells := 0, slots := 0, locals := 31 } : Room) #[(.ref x), (.int (2 : Int32)), (.int (2 : Int32))] h0 (fun v h L => ∃ (Ua Ub Va Vb Vc : Int64), v = some (.int 1) ∧ Fr n0 L ∧ OwnB Z h x cs r0 r1 up vp ho pr re dn kc k0 k1 ca cb cc cd ∧ Arv Z h up ku .long (3 : Int32) [(.long (0 : Int64)), (.long Ua), (.long Ub)] (.long 0) ∧ Arv Z h vp kv .long (3 : Int32) [(.long Va), (.long Vb), (.long Vc)] (.long 0) ∧ OwnDual ca cb cc cd Ua Ub Va Vb Vc) := by
  refine own_body (plainFor_of_name pn_1) (fun m => ef_aug2_1 m x) ?_
  intro p e s m below meth c s₁ X0 hx hby hml hown hnm hret hlk hZ e0
  replace hown : s.vm.findClass "com/example/weftwork/weftwork/algorithm/Assignment" = some m.cls := hown
  replace hml : c.maxLocals = 14 := hml
  have N0 := Fr.nil n0
  have bd_U1 : OwnBd U1 := by omega
  have bd_V0 : OwnBd V0 := by omega
  show Ends p.tables e below _ (s₁.setTop (mkF m 0 #[.val (.ref x), .val (.int (2 : Int32)), .val (.int (2 : Int32)), .unset, .unset, .unset, .unset, .unset, .unset, .unset, .unset, .unset, .unset, .unset] []))
  have k0 : (0 : Int64).toInt = 0 := rfl
  have kN := own_iN
  have i0 : (0 : Int32).toInt = 0 := rfl
  have i1 : (1 : Int32).toInt = 1 := rfl
  have i2 : (2 : Int32).toInt = 2 := rfl
  show Ends p.tables e below _ (s₁.setTop (mkF m 0 #[.val (.ref x), .val (.int (2 : Int32)), .val (.int (2 : Int32)), .unset, .unset, .unset, .unset, .unset, .unset, .unset, .unset, .unset, .unset, .unset] []))
  refine own_aloadN X0 hx hby d8_0 rfl rfl rfl ?_
  refine own_getfield X0 hx hby hZ hown (host := "") (Or.inl (hw _ tw_20)) Via.refl e0 (B_holder B) d8_1 rfl (fun T250 X250 e250 => ?_)
  refine own_iconst X250 hx hby d8_4 rfl (0 : Int32) rfl ?_
  refine own_iloadN X250 hx hby d8_5 rfl rfl ?_
  refine own_iastore X250 hx hby hZ (2 : Int32) rfl e250 Aho (by decide) 0 rfl (show 0 < 3 by decide) [(.int (2 : Int32)), (.int (1 : Int32)), (.int (0 : Int32))] rfl rfl N0 (ge_ho ord) d8_6 rfl (fun T251 h251 L251 X251 e251 W251 V251 N251 => ?_)
  refine own_iconst X251 hx hby d8_7 rfl (0 : Int32) rfl ?_
  refine own_istoreN X251 hx hby d8_8 rfl #[.val (.ref x), .val (.int (2 : Int32)), .val (.int (2 : Int32)), .val (.int (0 : Int32)), .unset, .unset, .unset, .unset, .unset, .unset, .unset, .unset, .unset, .unset] rfl ?_
  refine own_aloadN X251 hx hby d8_9 rfl rfl rfl ?_
  have f252 := (own_Bw B W251 (ne_x_ho ord) (ne_cs_ho ord) (ne_r0_ho ord) (ne_r1_ho ord))
  refine own_getfield X251 hx hby hZ hown (host := "") (Or.inl (hw _ tw_24)) Via.refl e251 (B_reach f252) d8_10 rfl (fun T253 X253 e253 => ?_)
  refine own_iconst X253 hx hby d8_13 rfl (0 : Int32) rfl ?_
  refine own_iloadN X253 hx hby d8_14 rfl rfl ?_
  refine own_iconst X253 hx hby d8_15 rfl (1 : Int32) rfl ?_
  refine own_iadd X253 hx hby d8_16 rfl ?_
  show Ends p.tables e below _ (T253.setTop (mkF m 17 #[.val (.ref x), .val (.int (2 : Int32)), .val (.int (2 : Int32)), .val (.int (0 : Int32)), .unset, .unset, .unset, .unset, .unset, .unset, .unset, .unset, .unset, .unset] [(.int (3 : Int32)), (.int (0 : Int32)), (.ref re)]))
  refine own_ldc2J X253 hx hby hZ hown (hw _ tw_53) d8_17 rfl ?_
  have f255 := (Are.other W251 (ne_re_ho ord))
  refine own_static X253 hx hby hZ (argsL := [(.ref re), (.int (0 : Int32)), (.int (3 : Int32)), (.long (9223372036854775807 : Int64))]) (rest := []) hown (hw _ tw_39) (hw _ tw_40) (hw _ tw_41) (hw _ tw_42) (by decide) (rm5 l Z a0 hw re (9223372036854775807 : Int64) h251 n0 (ge_re ord) f255) e253 (by rw [hml]; rfl) pd_1 rfl (by decide) (W := 0) (Nat.le_refl _) (by decide) (by decide) (by decide) d8_20 rfl rfl (fun v254 T254 L254 X254 hQ254 => ?_)
  obtain ⟨rfl, N254q, K254, V254⟩ := hQ254
  show Ends p.tables e below _ (T254.setTop (mkF m 23 #[.val (.ref x), .val (.int (2 : Int32)), .val (.int (2 : Int32)), .val (.int (0 : Int32)), .unset, .unset, .unset, .unset, .unset, .unset, .unset, .unset, .unset, .unset] []))
  refine own_aloadN X254 hx hby d8_23 rfl rfl rfl ?_
  have f256 := (own_Bk f252 K254 (ne_x_re ord) (ne_cs_re ord) (ne_r0_re ord) (ne_r1_re ord))
  refine own_getfield X254 hx hby hZ hown (host := "") (Or.inl (hw _ tw_27)) Via.refl rfl (B_done f256) d8_24 rfl (fun T257 X257 e257 => ?_)
  refine own_iconst X257 hx hby d8_27 rfl (0 : Int32) rfl ?_
  refine own_iloadN X257 hx hby d8_28 rfl rfl ?_
  refine own_iconst X257 hx hby d8_29 rfl (1 : Int32) rfl ?_
  refine own_iadd X257 hx hby d8_30 rfl ?_
  show Ends p.tables e below _ (T257.setTop (mkF m 31 #[.val (.ref x), .val (.int (2 : Int32)), .val (.int (2 : Int32)), .val (.int (0 : Int32)), .unset, .unset, .unset, .unset, .unset, .unset, .unset, .unset, .unset, .unset] [(.int (3 : Int32)), (.int (0 : Int32)), (.ref dn)]))
  refine own_iconst X257 hx hby d8_31 rfl (0 : Int32) rfl ?_
  have f259 := ((Adn.other W251 (ne_dn_ho ord)).keep K254 (ninS (ne_dn_re ord) nin0))
  refine own_static X257 hx hby hZ (argsL := [(.ref dn), (.int (0 : Int32)), (.int (3 : Int32)), (.int (0 : Int32))]) (rest := []) hown (hw _ tw_54) (hw _ tw_55) (hw _ tw_41) (hw _ tw_56) (by decide) (rm9 l Z a0 hw dn T254.heap n0 (ge_dn ord) f259) e257 (by rw [hml]; rfl) pd_2 rfl (by decide) (W := 0) (Nat.le_refl _) (by decide) (by decide) (by decide) d8_32 rfl rfl (fun v258 T258 L258 X258 hQ258 => ?_)
  obtain ⟨rfl, N258q, K258, V258⟩ := hQ258
  show Ends p.tables e below _ (T258.setTop (mkF m 35 #[.val (.ref x), .val (.int (2 : Int32)), .val (.int (2 : Int32)), .val (.int (0 : Int32)), .unset, .unset, .unset, .unset, .unset, .unset, .unset, .unset, .unset, .unset] []))
  refine own_aloadN X258 hx hby d8_35 rfl rfl rfl ?_
  have f260 := (own_Bk f256 K258 (ne_x_dn ord) (ne_cs_dn ord) (ne_r0_dn ord) (ne_r1_dn ord))
  refine own_getfield X258 hx hby hZ hown (host := "") (Or.inl (hw _ tw_27)) Via.refl rfl (B_done f260) d8_36 rfl (fun T261 X261 e261 => ?_)
  refine own_iloadN X261 hx hby d8_39 rfl rfl ?_
  refine own_iconst X261 hx hby d8_40 rfl (1 : Int32) rfl ?_
  refine own_zastore X261 hx hby hZ (1 : Int32) rfl e261 V258 (by decide) 0 rfl (show 0 < 3 by decide) [(.int (1 : Int32)), (.int (0 : Int32)), (.int (0 : Int32))] rfl rfl (Fr.app (Fr.app N251 N254q) N258q) (ge_dn ord) d8_41 rfl (fun T262 h262 L262 X262 e262 W262 V262 N262 => ?_)
  refine own_aloadN X262 hx hby d8_42 rfl rfl rfl ?_
  have f263 := (own_Bw f260 W262 (ne_x_dn ord) (ne_cs_dn ord) (ne_r0_dn ord) (ne_r1_dn ord))
  refine own_getfield X262 hx hby hZ hown (host := "") (Or.inl (hw _ tw_20)) Via.refl e262 (B_holder f263) d8_43 rfl (fun T264 X264 e264 => ?_)
  refine own_iloadN X264 hx hby d8_46 rfl rfl ?_
  have f265 := (((V251.keep K254 (ninS (ne_ho_re ord) nin0)).keep K258 (ninS (ne_ho_dn ord) nin0)).other W262 (ne_ho_dn ord))
  refine own_iaload X264 hx hby hZ (2 : Int32) e264 f265 (by decide) rfl d8_47 rfl ?_
  refine own_istore X264 hx hby d8_48 rfl #[.val (.ref x), .val (.int (2 : Int32)), .val (.int (2 : Int32)), .val (.int (0 : Int32)), .val (.int (2 : Int32)), .unset, .unset, .unset, .unset, .unset, .unset, .unset, .unset, .unset] rfl ?_
  refine own_aloadN X264 hx hby d8_50 rfl rfl rfl ?_
  refine own_getfield X264 hx hby hZ hown (host := "") (Or.inl (hw _ tw_13)) Via.refl e264 (B_costs f263) d8_51 rfl (fun T266 X266 e266 => ?_)
  refine own_iload X266 hx hby d8_54 rfl rfl ?_
  refine own_iconst X266 hx hby d8_56 rfl (1 : Int32) rfl ?_
  refine own_isub X266 hx hby d8_57 rfl ?_
  show Ends p.tables e below _ (T266.setTop (mkF m 58 #[.val (.ref x), .val (.int (2 : Int32)), .val (.int (2 : Int32)), .val (.int (0 : Int32)), .val (.int (2 : Int32)), .unset, .unset, .unset, .unset, .unset, .unset, .unset, .unset, .unset] [(.int (1 : Int32)), (.ref cs)]))
  refine own_aaload X266 hx hby hZ (.ref r1) rfl e266 (B_cs f263) (by decide) rfl d8_58 rfl ?_
  refine own_astore X266 hx hby d8_59 rfl #[.val (.ref x), .val (.int (2 : Int32)), .val (.int (2 : Int32)), .val (.int (0 : Int32)), .val (.int (2 : Int32)), .val (.ref r1), .unset, .unset, .unset, .unset, .unset, .unset, .unset, .unset] rfl rfl ?_
  refine own_ldc2J X266 hx hby hZ hown (hw _ tw_53) d8_61 rfl ?_
  refine own_lstore X266 hx hby d8_64 rfl #[.val (.ref x), .val (.int (2 : Int32)), .val (.int (2 : Int32)), .val (.int (0 : Int32)), .val (.int (2 : Int32)), .val (.ref r1), .val (.long (9223372036854775807 : Int64)), .second, .unset, .unset, .unset, .unset, .unset, .unset] rfl ?_
  refine own_iconst X266 hx hby d8_66 rfl (-1 : Int32) rfl ?_
  refine own_istore X266 hx hby d8_67 rfl #[.val (.ref x), .val (.int (2 : Int32)), .val (.int (2 : Int32)), .val (.int (0 : Int32)), .val (.int (2 : Int32)), .val (.ref r1), .val (.long (9223372036854775807 : Int64)), .second, .val (.int (-1 : Int32)), .unset, .unset, .unset, .unset, .unset] rfl ?_
  refine own_iconst X266 hx hby d8_69 rfl (1 : Int32) rfl ?_
  refine own_istore X266 hx hby d8_70 rfl #[.val (.ref x), .val (.int (2 : Int32)), .val (.int (2 : Int32)), .val (.int (0 : Int32)), .val (.int (2 : Int32)), .val (.ref r1), .val (.long (9223372036854775807 : Int64)), .second, .val (.int (-1 : Int32)), .val (.int (1 : Int32)), .unset, .unset, .unset, .unset] rfl ?_
  have f268 := ((((Aup.other W251 (ne_up_ho ord)).keep K254 (ninS (ne_up_re ord) nin0)).keep K258 (ninS (ne_up_dn ord) nin0)).other W262 (ne_up_dn ord))
  have f269 := ((((Avp.other W251 (ne_vp_ho ord)).keep K254 (ninS (ne_vp_re ord) nin0)).keep K258 (ninS (ne_vp_dn ord) nin0)).other W262 (ne_vp_dn ord))
  have f270 := ((((Apr.other W251 (ne_pr_ho ord)).keep K254 (ninS (ne_pr_re ord) nin0)).keep K258 (ninS (ne_pr_dn ord) nin0)).other W262 (ne_pr_dn ord))
  have f271 := ((V254.keep K258 (ninS (ne_re_dn ord) nin0)).other W262 (ne_re_dn ord))
  refine scan1 hx hby hml hown hZ hw ord f263 f268 f269 f265 f270 f271 V262 (c1 := cc) (c2 := cd) (B_r1 f263) (ne_r1_re ord) (ne_r1_pr ord) (r := (2 : Int32)) (u := (0 : Int64)) (by decide) rfl h_cc own_b0 own_b0 (Or.inl ⟨rfl, rfl⟩) (Or.inl ⟨rfl, rfl⟩) N262 X266 e266 (fun T267 h267 L267 Q267 g267 P267 n267 sa267 sb267 sc267 sd267 X267 e267 N267 B267 Aup267 Avp267 Aho267 Apr267 Are267 Adn267 p10_267 p12_267 rel267 => ?_)
  show Ends p.tables e below _ (T267.setTop (mkF m 72 #[.val (.ref x), .val (.int (2 : Int32)), .val (.int (2 : Int32)), .val (.int (0 : Int32)), .val (.int (2 : Int32)), .val (.ref r1), .val (.long g267), .second, .val (.int n267), .val (.int (2 : Int32)), sa267, sb267, sc267, sd267] []))
  refine scan2 hx hby hml hown hZ hw ord B267 Aup267 Avp267 Aho267 Apr267 Are267 Adn267 (c1 := cc) (c2 := cd) (B_r1 B267) (ne_r1_re ord) (ne_r1_pr ord) (r := (2 : Int32)) (u := (0 : Int64)) (by decide) rfl h_cd own_b0 own_b0 p10_267 p12_267 N267 X267 e267 (fun T272 h272 L272 Q272 g272 P272 n272 sa272 sb272 sc272 sd272 X272 e272 N272 B272 Aup272 Avp272 Aho272 Apr272 Are272 Adn272 p10_272 p12_272 rel272 => ?_)
  show Ends p.tables e below _ (T272.setTop (mkF m 72 #[.val (.ref x), .val (.int (2 : Int32)), .val (.int (2 : Int32)), .val (.int (0 : Int32)), .val (.int (2 : Int32)), .val (.ref r1), .val (.long g272), .second, .val (.int n272), .val (.int (3 : Int32)), sa272, sb272, sc272, sd272] []))
  refine own_iload X272 hx hby d8_72 rfl rfl ?_
  refine own_iloadN X272 hx hby d8_74 rfl rfl ?_
  refine own_icmp_gt X272 hx hby d8_75 (pcY := 191) (pcN := 78) (by decide) rfl (fun (hc273 : 2 < 3) => ?_) (fun (hc273 : 3 ≤ 2) => False.elim (by exact absurd hc273 (by decide)))
  rcases own_selA h_cc h_cd hn_cccd rel267 rel272 with ⟨rfl, rfl, sel274⟩ | ⟨rfl, rfl, sel274⟩
  · -- next 1
    clear rel267 rel272
    have d0 : 0 ≤ g272.toInt ∧ g272.toInt ≤ 1152921504606846976 := by have a1 := h_cc; have a2 := h_cd; have a3 := sel274; omega
    show Ends p.tables e below _ (T272.setTop (mkF m 191 #[.val (.ref x), .val (.int (2 : Int32)), .val (.int (2 : Int32)), .val (.int (0 : Int32)), .val (.int (2 : Int32)), .val (.ref r1), .val (.long g272), .second, .val (.int (1 : Int32)), .val (.int (3 : Int32)), sa272, sb272, sc272, sd272] []))
    refine own_iload X272 hx hby d8_191 rfl rfl ?_
    refine own_if_ge X272 hx hby d8_193 (pcY := 198) (pcN := 196) (by decide) rfl (fun (hc275 : 0 ≤ 1) => ?_) (fun (hc275 : 1 < 0) => False.elim (by exact absurd hc275 (by decide)))
    refine own_iconst X272 hx hby d8_198 rfl (0 : Int32) rfl ?_
    refine own_istore X272 hx hby d8_199 rfl #[.val (.ref x), .val (.int (2 : Int32)), .val (.int (2 : Int32)), .val (.int (0 : Int32)), .val (.int (2 : Int32)), .val (.ref r1), .val (.long g272), .second, .val (.int (1 : Int32)), .val (.int (0 : Int32)), sa272, sb272, sc272, sd272] rfl ?_
    refine upd0_2 hx hby hml hown hZ hw ord B272 Aup272 Avp272 Aho272 Apr272 Are272 Adn272 own_b0 bd_V0 d0 N272 X272 e272 (fun T276 h276 L276 U276 V276 X276 e276 N276 B276 Aup276 Avp276 Aho276 Apr276 Are276 Adn276 eu276 ev276 => ?_)
    have bd_U276 : OwnBd U276 := by have a1 := sel274; have bca := h_ca; have bcb := h_cb; have bcc := h_cc; have bcd := h_cd; omega
    have bd_V276 : OwnBd V276 := by have a1 := sel274; have bca := h_ca; have bcb := h_cb; have bcc := h_cc; have bcd := h_cd; omega
    show Ends p.tables e below _ (T276.setTop (mkF m 201 #[.val (.ref x), .val (.int (2 : Int32)), .val (.int (2 : Int32)), .val (.int (0 : Int32)), .val (.int (2 : Int32)), .val (.ref r1), .val (.long g272), .second, .val (.int (1 : Int32)), .val (.int (1 : Int32)), sa272, sb272, sc272, sd272] []))
    refine updn1 hx hby hml hown hZ hw ord B276 Aup276 Avp276 Aho276 Apr276 Are276 Adn276 (by have a1 := sel274; have bca := h_ca; have bcb := h_cb; have bcc := h_cc; have bcd := h_cd; omega) d0 N276 X276 e276 (fun T277 h277 L277 Q277 X277 e277 N277 B277 Aup277 Avp277 Aho277 Apr277 Are277 Adn277 un_1 => ?_)
    show Ends p.tables e below _ (T277.setTop (mkF m 201 #[.val (.ref x), .val (.int (2 : Int32)), .val (.int (2 : Int32)), .val (.int (0 : Int32)), .val (.int (2 : Int32)), .val (.ref r1), .val (.long g272), .second, .val (.int (1 : Int32)), .val (.int (2 : Int32)), sa272, sb272, sc272, sd272] []))
    refine updn2 hx hby hml hown hZ hw ord B277 Aup277 Avp277 Aho277 Apr277 Are277 Adn277 (by have a1 := sel274; have bca := h_ca; have bcb := h_cb; have bcc := h_cc; have bcd := h_cd; omega) d0 N277 X277 e277 (fun T278 h278 L278 Q278 X278 e278 N278 B278 Aup278 Avp278 Aho278 Apr278 Are278 Adn278 un_2 => ?_)
    show Ends p.tables e below _ (T278.setTop (mkF m 201 #[.val (.ref x), .val (.int (2 : Int32)), .val (.int (2 : Int32)), .val (.int (0 : Int32)), .val (.int (2 : Int32)), .val (.ref r1), .val (.long g272), .second, .val (.int (1 : Int32)), .val (.int (3 : Int32)), sa272, sb272, sc272, sd272] []))
    refine own_iload X278 hx hby d8_201 rfl rfl ?_
    refine own_iloadN X278 hx hby d8_203 rfl rfl ?_
    refine own_icmp_gt X278 hx hby d8_204 (pcY := 281) (pcN := 207) (by decide) rfl (fun (hc279 : 2 < 3) => ?_) (fun (hc279 : 3 ≤ 2) => False.elim (by exact absurd hc279 (by decide)))
    refine own_iload X278 hx hby d8_281 rfl rfl ?_
    refine own_istoreN X278 hx hby d8_283 rfl #[.val (.ref x), .val (.int (2 : Int32)), .val (.int (2 : Int32)), .val (.int (1 : Int32)), .val (.int (2 : Int32)), .val (.ref r1), .val (.long g272), .second, .val (.int (1 : Int32)), .val (.int (3 : Int32)), sa272, sb272, sc272, sd272] rfl ?_
    refine own_aloadN X278 hx hby d8_284 rfl rfl rfl ?_
    refine own_getfield X278 hx hby hZ hown (host := "") (Or.inl (hw _ tw_20)) Via.refl e278 (B_holder B278) d8_285 rfl (fun T280 X280 e280 => ?_)
    refine own_iloadN X280 hx hby d8_288 rfl rfl ?_
    refine own_iaload X280 hx hby hZ (1 : Int32) e280 Aho278 (by decide) rfl d8_289 rfl ?_
    refine own_if_ne X280 hx hby d8_290 (pcY := 35) (pcN := 293) (by decide) rfl (fun (hc281 : ¬ (1 : Int32) = (0 : Int32)) => ?_) (fun (hc281 : (1 : Int32) = (0 : Int32)) => False.elim (by exact absurd hc281 (by decide)))
    refine own_aloadN X280 hx hby d8_35 rfl rfl rfl ?_
    refine own_getfield X280 hx hby hZ hown (host := "") (Or.inl (hw _ tw_27)) Via.refl e280 (B_done B278) d8_36 rfl (fun T282 X282 e282 => ?_)
    refine own_iloadN X282 hx hby d8_39 rfl rfl ?_
    refine own_iconst X282 hx hby d8_40 rfl (1 : Int32) rfl ?_
    refine own_zastore X282 hx hby hZ (1 : Int32) rfl e282 Adn278 (by decide) 1 rfl (show 1 < 3 by decide) [(.int (1 : Int32)), (.int (1 : Int32)), (.int (0 : Int32))] rfl rfl N278 (ge_dn ord) d8_41 rfl (fun T283 h283 L283 X283 e283 W283 V283 N283 => ?_)
    refine own_aloadN X283 hx hby d8_42 rfl rfl rfl ?_
    have f284 := (own_Bw B278 W283 (ne_x_dn ord) (ne_cs_dn ord) (ne_r0_dn ord) (ne_r1_dn ord))
    refine own_getfield X283 hx hby hZ hown (host := "") (Or.inl (hw _ tw_20)) Via.refl e283 (B_holder f284) d8_43 rfl (fun T285 X285 e285 => ?_)
    refine own_iloadN X285 hx hby d8_46 rfl rfl ?_
    have f286 := (Aho278.other W283 (ne_ho_dn ord))
    refine own_iaload X285 hx hby hZ (1 : Int32) e285 f286 (by decide) rfl d8_47 rfl ?_
    refine own_istore X285 hx hby d8_48 rfl #[.val (.ref x), .val (.int (2 : Int32)), .val (.int (2 : Int32)), .val (.int (1 : Int32)), .val (.int (1 : Int32)), .val (.ref r1), .val (.long g272), .second, .val (.int (1 : Int32)), .val (.int (3 : Int32)), sa272, sb272, sc272, sd272] rfl ?_
    refine own_aloadN X285 hx hby d8_50 rfl rfl rfl ?_
    refine own_getfield X285 hx hby hZ hown (host := "") (Or.inl (hw _ tw_13)) Via.refl e285 (B_costs f284) d8_51 rfl (fun T287 X287 e287 => ?_)
    refine own_iload X287 hx hby d8_54 rfl rfl ?_
    refine own_iconst X287 hx hby d8_56 rfl (1 : Int32) rfl ?_
    refine own_isub X287 hx hby d8_57 rfl ?_
    show Ends p.tables e below _ (T287.setTop (mkF m 58 #[.val (.ref x), .val (.int (2 : Int32)), .val (.int (2 : Int32)), .val (.int (1 : Int32)), .val (.int (1 : Int32)), .val (.ref r1), .val (.long g272), .second, .val (.int (1 : Int32)), .val (.int (3 : Int32)), sa272, sb272, sc272, sd272] [(.int (0 : Int32)), (.ref cs)]))
    refine own_aaload X287 hx hby hZ (.ref r0) rfl e287 (B_cs f284) (by decide) rfl d8_58 rfl ?_
    refine own_astore X287 hx hby d8_59 rfl #[.val (.ref x), .val (.int (2 : Int32)), .val (.int (2 : Int32)), .val (.int (1 : Int32)), .val (.int (1 : Int32)), .val (.ref r0), .val (.long g272), .second, .val (.int (1 : Int32)), .val (.int (3 : Int32)), sa272, sb272, sc272, sd272] rfl rfl ?_
    refine own_ldc2J X287 hx hby hZ hown (hw _ tw_53) d8_61 rfl ?_
    refine own_lstore X287 hx hby d8_64 rfl #[.val (.ref x), .val (.int (2 : Int32)), .val (.int (2 : Int32)), .val (.int (1 : Int32)), .val (.int (1 : Int32)), .val (.ref r0), .val (.long (9223372036854775807 : Int64)), .second, .val (.int (1 : Int32)), .val (.int (3 : Int32)), sa272, sb272, sc272, sd272] rfl ?_
    refine own_iconst X287 hx hby d8_66 rfl (-1 : Int32) rfl ?_
    refine own_istore X287 hx hby d8_67 rfl #[.val (.ref x), .val (.int (2 : Int32)), .val (.int (2 : Int32)), .val (.int (1 : Int32)), .val (.int (1 : Int32)), .val (.ref r0), .val (.long (9223372036854775807 : Int64)), .second, .val (.int (-1 : Int32)), .val (.int (3 : Int32)), sa272, sb272, sc272, sd272] rfl ?_
    refine own_iconst X287 hx hby d8_69 rfl (1 : Int32) rfl ?_
    refine own_istore X287 hx hby d8_70 rfl #[.val (.ref x), .val (.int (2 : Int32)), .val (.int (2 : Int32)), .val (.int (1 : Int32)), .val (.int (1 : Int32)), .val (.ref r0), .val (.long (9223372036854775807 : Int64)), .second, .val (.int (-1 : Int32)), .val (.int (1 : Int32)), sa272, sb272, sc272, sd272] rfl ?_
    refine own_iload X287 hx hby d8_72 rfl rfl ?_
    refine own_iloadN X287 hx hby d8_74 rfl rfl ?_
    refine own_icmp_gt X287 hx hby d8_75 (pcY := 191) (pcN := 78) (by decide) rfl (fun (hc288 : 2 < 1) => False.elim (by exact absurd hc288 (by decide))) (fun (hc288 : 1 ≤ 2) => ?_)
    refine own_aloadN X287 hx hby d8_78 rfl rfl rfl ?_
    refine own_getfield X287 hx hby hZ hown (host := "") (Or.inl (hw _ tw_27)) Via.refl e287 (B_done f284) d8_79 rfl (fun T289 X289 e289 => ?_)
    refine own_iload X289 hx hby d8_82 rfl rfl ?_
    refine own_zaload X289 hx hby hZ (1 : Int32) e289 V283 (by decide) rfl d8_84 rfl ?_
    refine own_if_eq X289 hx hby d8_85 (pcY := 91) (pcN := 88) (by decide) rfl (fun (hc290 : (1 : Int32) = (0 : Int32)) => False.elim (by exact absurd hc290 (by decide))) (fun (hc290 : ¬ (1 : Int32) = (0 : Int32)) => ?_)
    refine own_goto X289 hx hby d8_88 (pc' := 185) (by decide) ?_
    refine own_iinc X289 hx hby d8_185 rfl (1 : Int32) rfl #[.val (.ref x), .val (.int (2 : Int32)), .val (.int (2 : Int32)), .val (.int (1 : Int32)), .val (.int (1 : Int32)), .val (.ref r0), .val (.long (9223372036854775807 : Int64)), .second, .val (.int (-1 : Int32)), .val (.int (2 : Int32)), sa272, sb272, sc272, sd272] rfl rfl ?_
    refine own_goto X289 hx hby d8_188 (pc' := 72) (by decide) ?_
    have f292 := (Aup278.other W283 (ne_up_dn ord))
    have f293 := (Avp278.other W283 (ne_vp_dn ord))
    have f294 := (Apr278.other W283 (ne_pr_dn ord))
    have f295 := (Are278.other W283 (ne_re_dn ord))
    refine scan2 hx hby hml hown hZ hw ord f284 f292 f293 f286 f294 f295 V283 (c1 := ca) (c2 := cb) (B_r0 f284) (ne_r0_re ord) (ne_r0_pr ord) (r := (1 : Int32)) (u := U1) (by decide) rfl h_cb bd_U1 own_b0 p10_272 p12_272 N283 X289 e289 (fun T291 h291 L291 Q291 g291 P291 n291 sa291 sb291 sc291 sd291 X291 e291 N291 B291 Aup291 Avp291 Aho291 Apr291 Are291 Adn291 p10_291 p12_291 rel291 => ?_)
    show Ends p.tables e below _ (T291.setTop (mkF m 72 #[.val (.ref x), .val (.int (2 : Int32)), .val (.int (2 : Int32)), .val (.int (1 : Int32)), .val (.int (1 : Int32)), .val (.ref r0), .val (.long g291), .second, .val (.int n291), .val (.int (3 : Int32)), sa291, sb291, sc291, sd291] []))
    refine own_iload X291 hx hby d8_72 rfl rfl ?_
    refine own_iloadN X291 hx hby d8_74 rfl rfl ?_
    refine own_icmp_gt X291 hx hby d8_75 (pcY := 191) (pcN := 78) (by decide) rfl (fun (hc296 : 2 < 3) => ?_) (fun (hc296 : 3 ≤ 2) => False.elim (by exact absurd hc296 (by decide)))
    obtain ⟨rfl, d1, eq297, le0297, le1297, alt297⟩ := own_selB (c0 := cb) (c1 := cd) (cj := cc) (U1 := U1) h_cb h_cd (by have a1 := h_cc; have a2 := sel274; omega) (by have a1 := h_ca; omega) (by omega) (by omega) (by have a2 := sel274; have a3 := un_2; have a4 := h_cd; omega) rel291
    clear rel291
    rcases alt297 with ⟨rfl, alt297⟩ | ⟨rfl, alt297⟩
    · -- previous 0
      have dq : 0 ≤ g291.toInt ∧ g291.toInt ≤ 1152921504606846976 := by omega
      show Ends p.tables e below _ (T291.setTop (mkF m 191 #[.val (.ref x), .val (.int (2 : Int32)), .val (.int (2 : Int32)), .val (.int (1 : Int32)), .val (.int (1 : Int32)), .val (.ref r0), .val (.long g291), .second, .val (.int (2 : Int32)), .val (.int (3 : Int32)), sa291, sb291, sc291, sd291] []))
      refine own_iload X291 hx hby d8_191 rfl rfl ?_
      refine own_if_ge X291 hx hby d8_193 (pcY := 198) (pcN := 196) (by decide) rfl (fun (hc298 : 0 ≤ 2) => ?_) (fun (hc298 : 2 < 0) => False.elim (by exact absurd hc298 (by decide)))
      refine own_iconst X291 hx hby d8_198 rfl (0 : Int32) rfl ?_
      refine own_istore X291 hx hby d8_199 rfl #[.val (.ref x), .val (.int (2 : Int32)), .val (.int (2 : Int32)), .val (.int (1 : Int32)), .val (.int (1 : Int32)), .val (.ref r0), .val (.long g291), .second, .val (.int (2 : Int32)), .val (.int (0 : Int32)), sa291, sb291, sc291, sd291] rfl ?_
      refine upd0_2 hx hby hml hown hZ hw ord B291 Aup291 Avp291 Aho291 Apr291 Are291 Adn291 bd_U276 bd_V276 dq N291 X291 e291 (fun T299 h299 L299 U299 V299 X299 e299 N299 B299 Aup299 Avp299 Aho299 Apr299 Are299 Adn299 eu299 ev299 => ?_)
      have bd_U299 : OwnBd U299 := by have a1 := sel274; have bca := h_ca; have bcb := h_cb; have bcc := h_cc; have bcd := h_cd; omega
      have bd_V299 : OwnBd V299 := by have a1 := sel274; have bca := h_ca; have bcb := h_cb; have bcc := h_cc; have bcd := h_cd; omega
      show Ends p.tables e below _ (T299.setTop (mkF m 201 #[.val (.ref x), .val (.int (2 : Int32)), .val (.int (2 : Int32)), .val (.int (1 : Int32)), .val (.int (1 : Int32)), .val (.ref r0), .val (.long g291), .second, .val (.int (2 : Int32)), .val (.int (1 : Int32)), sa291, sb291, sc291, sd291] []))
      refine upd1_1 hx hby hml hown hZ hw ord B299 Aup299 Avp299 Aho299 Apr299 Are299 Adn299 bd_U1 own_b0 dq N299 X299 e299 (fun T300 h300 L300 U300 V300 X300 e300 N300 B300 Aup300 Avp300 Aho300 Apr300 Are300 Adn300 eu300 ev300 => ?_)
      have bd_U300 : OwnBd U300 := by have a1 := sel274; have bca := h_ca; have bcb := h_cb; have bcc := h_cc; have bcd := h_cd; omega
      have bd_V300 : OwnBd V300 := by have a1 := sel274; have bca := h_ca; have bcb := h_cb; have bcc := h_cc; have bcd := h_cd; omega
      show Ends p.tables e below _ (T300.setTop (mkF m 201 #[.val (.ref x), .val (.int (2 : Int32)), .val (.int (2 : Int32)), .val (.int (1 : Int32)), .val (.int (1 : Int32)), .val (.ref r0), .val (.long g291), .second, .val (.int (2 : Int32)), .val (.int (2 : Int32)), sa291, sb291, sc291, sd291] []))
      refine updn2 hx hby hml hown hZ hw ord B300 Aup300 Avp300 Aho300 Apr300 Are300 Adn300 (by have a1 := sel274; have bca := h_ca; have bcb := h_cb; have bcc := h_cc; have bcd := h_cd; omega) dq N300 X300 e300 (fun T301 h301 L301 Q301 X301 e301 N301 B301 Aup301 Avp301 Aho301 Apr301 Are301 Adn301 un_2 => ?_)
      show Ends p.tables e below _ (T301.setTop (mkF m 201 #[.val (.ref x), .val (.int (2 : Int32)), .val (.int (2 : Int32)), .val (.int (1 : Int32)), .val (.int (1 : Int32)), .val (.ref r0), .val (.long g291), .second, .val (.int (2 : Int32)), .val (.int (3 : Int32)), sa291, sb291, sc291, sd291] []))
      refine own_iload X301 hx hby d8_201 rfl rfl ?_
      refine own_iloadN X301 hx hby d8_203 rfl rfl ?_
      refine own_icmp_gt X301 hx hby d8_204 (pcY := 281) (pcN := 207) (by decide) rfl (fun (hc302 : 2 < 3) => ?_) (fun (hc302 : 3 ≤ 2) => False.elim (by exact absurd hc302 (by decide)))
      refine own_iload X301 hx hby d8_281 rfl rfl ?_
      refine own_istoreN X301 hx hby d8_283 rfl #[.val (.ref x), .val (.int (2 : Int32)), .val (.int (2 : Int32)), .val (.int (2 : Int32)), .val (.int (1 : Int32)), .val (.ref r0), .val (.long g291), .second, .val (.int (2 : Int32)), .val (.int (3 : Int32)), sa291, sb291, sc291, sd291] rfl ?_
      refine own_aloadN X301 hx hby d8_284 rfl rfl rfl ?_
      refine own_getfield X301 hx hby hZ hown (host := "") (Or.inl (hw _ tw_20)) Via.refl e301 (B_holder B301) d8_285 rfl (fun T303 X303 e303 => ?_)
      refine own_iloadN X303 hx hby d8_288 rfl rfl ?_
      refine own_iaload X303 hx hby hZ (0 : Int32) e303 Aho301 (by decide) rfl d8_289 rfl ?_
      refine own_if_ne X303 hx hby d8_290 (pcY := 35) (pcN := 293) (by decide) rfl (fun (hc304 : ¬ (0 : Int32) = (0 : Int32)) => False.elim (by exact absurd hc304 (by decide))) (fun (hc304 : (0 : Int32) = (0 : Int32)) => ?_)
      refine own_iloadN X303 hx hby d8_293 rfl rfl ?_
      refine own_if_eq X303 hx hby d8_294 (pcY := 324) (pcN := 297) (by decide) rfl (fun (hc305 : (2 : Int32) = (0 : Int32)) => False.elim (by exact absurd hc305 (by decide))) (fun (hc305 : ¬ (2 : Int32) = (0 : Int32)) => ?_)
      refine own_aloadN X303 hx hby d8_297 rfl rfl rfl ?_
      refine own_getfield X303 hx hby hZ hown (host := "") (Or.inl (hw _ tw_22)) Via.refl e303 (B_previous B301) d8_298 rfl (fun T306 X306 e306 => ?_)
      refine own_iloadN X306 hx hby d8_301 rfl rfl ?_
      refine own_iaload X306 hx hby hZ (0 : Int32) e306 Apr301 (by decide) rfl d8_302 rfl ?_
      refine own_istore X306 hx hby d8_303 rfl #[.val (.ref x), .val (.int (2 : Int32)), .val (.int (2 : Int32)), .val (.int (2 : Int32)), .val (.int (0 : Int32)), .val (.ref r0), .val (.long g291), .second, .val (.int (2 : Int32)), .val (.int (3 : Int32)), sa291, sb291, sc291, sd291] rfl ?_
      refine own_aloadN X306 hx hby d8_305 rfl rfl rfl ?_
      refine own_getfield X306 hx hby hZ hown (host := "") (Or.inl (hw _ tw_20)) Via.refl e306 (B_holder B301) d8_306 rfl (fun T307 X307 e307 => ?_)
      refine own_iloadN X307 hx hby d8_309 rfl rfl ?_
      refine own_aloadN X307 hx hby d8_310 rfl rfl rfl ?_
      refine own_getfield X307 hx hby hZ hown (host := "") (Or.inl (hw _ tw_20)) Via.refl e307 (B_holder B301) d8_311 rfl (fun T308 X308 e308 => ?_)
      refine own_iload X308 hx hby d8_314 rfl rfl ?_
      refine own_iaload X308 hx hby hZ (2 : Int32) e308 Aho301 (by decide) rfl d8_316 rfl ?_
      refine own_iastore X308 hx hby hZ (2 : Int32) rfl e308 Aho301 (by decide) 2 rfl (show 2 < 3 by decide) [(.int (2 : Int32)), (.int (1 : Int32)), (.int (2 : Int32))] rfl rfl N301 (ge_ho ord) d8_317 rfl (fun T309 h309 L309 X309 e309 W309 V309 N309 => ?_)
      refine own_iload X309 hx hby d8_318 rfl rfl ?_
      refine own_istoreN X309 hx hby d8_320 rfl #[.val (.ref x), .val (.int (2 : Int32)), .val (.int (2 : Int32)), .val (.int (0 : Int32)), .val (.int (0 : Int32)), .val (.ref r0), .val (.long g291), .second, .val (.int (2 : Int32)), .val (.int (3 : Int32)), sa291, sb291, sc291, sd291] rfl ?_
      refine own_goto X309 hx hby d8_321 (pc' := 293) (by decide) ?_
      refine own_iloadN X309 hx hby d8_293 rfl rfl ?_
      refine own_if_eq X309 hx hby d8_294 (pcY := 324) (pcN := 297) (by decide) rfl (fun (hc310 : (0 : Int32) = (0 : Int32)) => ?_) (fun (hc310 : ¬ (0 : Int32) = (0 : Int32)) => False.elim (by exact absurd hc310 (by decide)))
      refine own_iconst X309 hx hby d8_324 rfl (1 : Int32) rfl ?_
      refine own_ret X309 hx hby hret hlk d8_325 (.int (1 : Int32)) rfl (Or.inl ⟨rfl, by simp, _, rfl⟩) (by decide) (by decide) ?_
      have f311 := (own_Bw B301 W309 (ne_x_ho ord) (ne_cs_ho ord) (ne_r0_ho ord) (ne_r1_ho ord))
      have f312 := (Aup301.other W309 (ne_up_ho ord))
      have f313 := (Avp301.other W309 (ne_vp_ho ord))
      rw [e309]
      refine ⟨U300, U299, V299, V300, (0 : Int64), rfl, N309, f311, f312, f313, ?_⟩
      refine ⟨by have a1 := sel274; have b1 := h_ca; have b2 := h_cb; have b3 := h_cc; have b4 := h_cd; omega, by have a1 := sel274; have b1 := h_ca; have b2 := h_cb; have b3 := h_cc; have b4 := h_cd; omega, by have a1 := sel274; have b1 := h_ca; have b2 := h_cb; have b3 := h_cc; have b4 := h_cd; omega, by have a1 := sel274; have b1 := h_ca; have b2 := h_cb; have b3 := h_cc; have b4 := h_cd; omega, by have a1 := sel274; have b1 := h_ca; have b2 := h_cb; have b3 := h_cc; have b4 := h_cd; omega, by have a1 := sel274; have b1 := h_ca; have b2 := h_cb; have b3 := h_cc; have b4 := h_cd; omega, by have a1 := sel274; have b1 := h_ca; have b2 := h_cb; have b3 := h_cc; have b4 := h_cd; omega, by have a1 := sel274; have b1 := h_ca; have b2 := h_cb; have b3 := h_cc; have b4 := h_cd; omega, by have a1 := sel274; have b1 := h_ca; have b2 := h_cb; have b3 := h_cc; have b4 := h_cd; omega, by have a1 := sel274; have b1 := h_ca; have b2 := h_cb; have b3 := h_cc; have b4 := h_cd; omega, by have a1 := sel274; have b1 := h_ca; have b2 := h_cb; have b3 := h_cc; have b4 := h_cd; omega⟩
    · -- previous 1
      have dq : 0 ≤ g291.toInt ∧ g291.toInt ≤ 1152921504606846976 := by omega
      show Ends p.tables e below _ (T291.setTop (mkF m 191 #[.val (.ref x), .val (.int (2 : Int32)), .val (.int (2 : Int32)), .val (.int (1 : Int32)), .val (.int (1 : Int32)), .val (.ref r0), .val (.long g291), .second, .val (.int (2 : Int32)), .val (.int (3 : Int32)), sa291, sb291, sc291, sd291] []))
      refine own_iload X291 hx hby d8_191 rfl rfl ?_
      refine own_if_ge X291 hx hby d8_193 (pcY := 198) (pcN := 196) (by decide) rfl (fun (hc314 : 0 ≤ 2) => ?_) (fun (hc314 : 2 < 0) => False.elim (by exact absurd hc314 (by decide)))
      refine own_iconst X291 hx hby d8_198 rfl (0 : Int32) rfl ?_
      refine own_istore X291 hx hby d8_199 rfl #[.val (.ref x), .val (.int (2 : Int32)), .val (.int (2 : Int32)), .val (.int (1 : Int32)), .val (.int (1 : Int32)), .val (.ref r0), .val (.long g291), .second, .val (.int (2 : Int32)), .val (.int (0 : Int32)), sa291, sb291, sc291, sd291] rfl ?_
      refine upd0_2 hx hby hml hown hZ hw ord B291 Aup291 Avp291 Aho291 Apr291 Are291 Adn291 bd_U276 bd_V276 dq N291 X291 e291 (fun T315 h315 L315 U315 V315 X315 e315 N315 B315 Aup315 Avp315 Aho315 Apr315 Are315 Adn315 eu315 ev315 => ?_)
      have bd_U315 : OwnBd U315 := by have a1 := sel274; have bca := h_ca; have bcb := h_cb; have bcc := h_cc; have bcd := h_cd; omega
      have bd_V315 : OwnBd V315 := by have a1 := sel274; have bca := h_ca; have bcb := h_cb; have bcc := h_cc; have bcd := h_cd; omega
      show Ends p.tables e below _ (T315.setTop (mkF m 201 #[.val (.ref x), .val (.int (2 : Int32)), .val (.int (2 : Int32)), .val (.int (1 : Int32)), .val (.int (1 : Int32)), .val (.ref r0), .val (.long g291), .second, .val (.int (2 : Int32)), .val (.int (1 : Int32)), sa291, sb291, sc291, sd291] []))
      refine upd1_1 hx hby hml hown hZ hw ord B315 Aup315 Avp315 Aho315 Apr315 Are315 Adn315 bd_U1 own_b0 dq N315 X315 e315 (fun T316 h316 L316 U316 V316 X316 e316 N316 B316 Aup316 Avp316 Aho316 Apr316 Are316 Adn316 eu316 ev316 => ?_)
      have bd_U316 : OwnBd U316 := by have a1 := sel274; have bca := h_ca; have bcb := h_cb; have bcc := h_cc; have bcd := h_cd; omega
      have bd_V316 : OwnBd V316 := by have a1 := sel274; have bca := h_ca; have bcb := h_cb; have bcc := h_cc; have bcd := h_cd; omega
      show Ends p.tables e below _ (T316.setTop (mkF m 201 #[.val (.ref x), .val (.int (2 : Int32)), .val (.int (2 : Int32)), .val (.int (1 : Int32)), .val (.int (1 : Int32)), .val (.ref r0), .val (.long g291), .second, .val (.int (2 : Int32)), .val (.int (2 : Int32)), sa291, sb291, sc291, sd291] []))
      refine updn2 hx hby hml hown hZ hw ord B316 Aup316 Avp316 Aho316 Apr316 Are316 Adn316 (by have a1 := sel274; have bca := h_ca; have bcb := h_cb; have bcc := h_cc; have bcd := h_cd; omega) dq N316 X316 e316 (fun T317 h317 L317 Q317 X317 e317 N317 B317 Aup317 Avp317 Aho317 Apr317 Are317 Adn317 un_2 => ?_)
      show Ends p.tables e below _ (T317.setTop (mkF m 201 #[.val (.ref x), .val (.int (2 : Int32)), .val (.int (2 : Int32)), .val (.int (1 : Int32)), .val (.int (1 : Int32)), .val (.ref r0), .val (.long g291), .second, .val (.int (2 : Int32)), .val (.int (3 : Int32)), sa291, sb291, sc291, sd291] []))
      refine own_iload X317 hx hby d8_201 rfl rfl ?_
      refine own_iloadN X317 hx hby d8_203 rfl rfl ?_
      refine own_icmp_gt X317 hx hby d8_204 (pcY := 281) (pcN := 207) (by decide) rfl (fun (hc318 : 2 < 3) => ?_) (fun (hc318 : 3 ≤ 2) => False.elim (by exact absurd hc318 (by decide)))
      refine own_iload X317 hx hby d8_281 rfl rfl ?_
      refine own_istoreN X317 hx hby d8_283 rfl #[.val (.ref x), .val (.int (2 : Int32)), .val (.int (2 : Int32)), .val (.int (2 : Int32)), .val (.int (1 : Int32)), .val (.ref r0), .val (.long g291), .second, .val (.int (2 : Int32)), .val (.int (3 : Int32)), sa291, sb291, sc291, sd291] rfl ?_
      refine own_aloadN X317 hx hby d8_284 rfl rfl rfl ?_
      refine own_getfield X317 hx hby hZ hown (host := "") (Or.inl (hw _ tw_20)) Via.refl e317 (B_holder B317) d8_285 rfl (fun T319 X319 e319 => ?_)
      refine own_iloadN X319 hx hby d8_288 rfl rfl ?_
      refine own_iaload X319 hx hby hZ (0 : Int32) e319 Aho317 (by decide) rfl d8_289 rfl ?_
      refine own_if_ne X319 hx hby d8_290 (pcY := 35) (pcN := 293) (by decide) rfl (fun (hc320 : ¬ (0 : Int32) = (0 : Int32)) => False.elim (by exact absurd hc320 (by decide))) (fun (hc320 : (0 : Int32) = (0 : Int32)) => ?_)
      refine own_iloadN X319 hx hby d8_293 rfl rfl ?_
      refine own_if_eq X319 hx hby d8_294 (pcY := 324) (pcN := 297) (by decide) rfl (fun (hc321 : (2 : Int32) = (0 : Int32)) => False.elim (by exact absurd hc321 (by decide))) (fun (hc321 : ¬ (2 : Int32) = (0 : Int32)) => ?_)
      refine own_aloadN X319 hx hby d8_297 rfl rfl rfl ?_
      refine own_getfield X319 hx hby hZ hown (host := "") (Or.inl (hw _ tw_22)) Via.refl e319 (B_previous B317) d8_298 rfl (fun T322 X322 e322 => ?_)
      refine own_iloadN X322 hx hby d8_301 rfl rfl ?_
      refine own_iaload X322 hx hby hZ (1 : Int32) e322 Apr317 (by decide) rfl d8_302 rfl ?_
      refine own_istore X322 hx hby d8_303 rfl #[.val (.ref x), .val (.int (2 : Int32)), .val (.int (2 : Int32)), .val (.int (2 : Int32)), .val (.int (1 : Int32)), .val (.ref r0), .val (.long g291), .second, .val (.int (2 : Int32)), .val (.int (3 : Int32)), sa291, sb291, sc291, sd291] rfl ?_
      refine own_aloadN X322 hx hby d8_305 rfl rfl rfl ?_
      refine own_getfield X322 hx hby hZ hown (host := "") (Or.inl (hw _ tw_20)) Via.refl e322 (B_holder B317) d8_306 rfl (fun T323 X323 e323 => ?_)
      refine own_iloadN X323 hx hby d8_309 rfl rfl ?_
      refine own_aloadN X323 hx hby d8_310 rfl rfl rfl ?_
      refine own_getfield X323 hx hby hZ hown (host := "") (Or.inl (hw _ tw_20)) Via.refl e323 (B_holder B317) d8_311 rfl (fun T324 X324 e324 => ?_)
      refine own_iload X324 hx hby d8_314 rfl rfl ?_
      refine own_iaload X324 hx hby hZ (1 : Int32) e324 Aho317 (by decide) rfl d8_316 rfl ?_
      refine own_iastore X324 hx hby hZ (1 : Int32) rfl e324 Aho317 (by decide) 2 rfl (show 2 < 3 by decide) [(.int (2 : Int32)), (.int (1 : Int32)), (.int (1 : Int32))] rfl rfl N317 (ge_ho ord) d8_317 rfl (fun T325 h325 L325 X325 e325 W325 V325 N325 => ?_)
      refine own_iload X325 hx hby d8_318 rfl rfl ?_
      refine own_istoreN X325 hx hby d8_320 rfl #[.val (.ref x), .val (.int (2 : Int32)), .val (.int (2 : Int32)), .val (.int (1 : Int32)), .val (.int (1 : Int32)), .val (.ref r0), .val (.long g291), .second, .val (.int (2 : Int32)), .val (.int (3 : Int32)), sa291, sb291, sc291, sd291] rfl ?_
      refine own_goto X325 hx hby d8_321 (pc' := 293) (by decide) ?_
      refine own_iloadN X325 hx hby d8_293 rfl rfl ?_
      refine own_if_eq X325 hx hby d8_294 (pcY := 324) (pcN := 297) (by decide) rfl (fun (hc326 : (1 : Int32) = (0 : Int32)) => False.elim (by exact absurd hc326 (by decide))) (fun (hc326 : ¬ (1 : Int32) = (0 : Int32)) => ?_)
      refine own_aloadN X325 hx hby d8_297 rfl rfl rfl ?_
      have f327 := (own_Bw B317 W325 (ne_x_ho ord) (ne_cs_ho ord) (ne_r0_ho ord) (ne_r1_ho ord))
      refine own_getfield X325 hx hby hZ hown (host := "") (Or.inl (hw _ tw_22)) Via.refl e325 (B_previous f327) d8_298 rfl (fun T328 X328 e328 => ?_)
      refine own_iloadN X328 hx hby d8_301 rfl rfl ?_
      have f329 := (Apr317.other W325 (ne_pr_ho ord))
      refine own_iaload X328 hx hby hZ (0 : Int32) e328 f329 (by decide) rfl d8_302 rfl ?_
      refine own_istore X328 hx hby d8_303 rfl #[.val (.ref x), .val (.int (2 : Int32)), .val (.int (2 : Int32)), .val (.int (1 : Int32)), .val (.int (0 : Int32)), .val (.ref r0), .val (.long g291), .second, .val (.int (2 : Int32)), .val (.int (3 : Int32)), sa291, sb291, sc291, sd291] rfl ?_
      refine own_aloadN X328 hx hby d8_305 rfl rfl rfl ?_
      refine own_getfield X328 hx hby hZ hown (host := "") (Or.inl (hw _ tw_20)) Via.refl e328 (B_holder f327) d8_306 rfl (fun T330 X330 e330 => ?_)
      refine own_iloadN X330 hx hby d8_309 rfl rfl ?_
      refine own_aloadN X330 hx hby d8_310 rfl rfl rfl ?_
      refine own_getfield X330 hx hby hZ hown (host := "") (Or.inl (hw _ tw_20)) Via.refl e330 (B_holder f327) d8_311 rfl (fun T331 X331 e331 => ?_)
      refine own_iload X331 hx hby d8_314 rfl rfl ?_
      refine own_iaload X331 hx hby hZ (2 : Int32) e331 V325 (by decide) rfl d8_316 rfl ?_
      refine own_iastore X331 hx hby hZ (2 : Int32) rfl e331 V325 (by decide) 1 rfl (show 1 < 3 by decide) [(.int (2 : Int32)), (.int (2 : Int32)), (.int (1 : Int32))] rfl rfl N325 (ge_ho ord) d8_317 rfl (fun T332 h332 L332 X332 e332 W332 V332 N332 => ?_)
      refine own_iload X332 hx hby d8_318 rfl rfl ?_
      refine own_istoreN X332 hx hby d8_320 rfl #[.val (.ref x), .val (.int (2 : Int32)), .val (.int (2 : Int32)), .val (.int (0 : Int32)), .val (.int (0 : Int32)), .val (.ref r0), .val (.long g291), .second, .val (.int (2 : Int32)), .val (.int (3 : Int32)), sa291, sb291, sc291, sd291] rfl ?_
      refine own_goto X332 hx hby d8_321 (pc' := 293) (by decide) ?_
      refine own_iloadN X332 hx hby d8_293 rfl rfl ?_
      refine own_if_eq X332 hx hby d8_294 (pcY := 324) (pcN := 297) (by decide) rfl (fun (hc333 : (0 : Int32) = (0 : Int32)) => ?_) (fun (hc333 : ¬ (0 : Int32) = (0 : Int32)) => False.elim (by exact absurd hc333 (by decide)))
      refine own_iconst X332 hx hby d8_324 rfl (1 : Int32) rfl ?_
      refine own_ret X332 hx hby hret hlk d8_325 (.int (1 : Int32)) rfl (Or.inl ⟨rfl, by simp, _, rfl⟩) (by decide) (by decide) ?_
      have f334 := (own_Bw f327 W332 (ne_x_ho ord) (ne_cs_ho ord) (ne_r0_ho ord) (ne_r1_ho ord))
      have f335 := ((Aup317.other W325 (ne_up_ho ord)).other W332 (ne_up_ho ord))
      have f336 := ((Avp317.other W325 (ne_vp_ho ord)).other W332 (ne_vp_ho ord))
      rw [e332]
      refine ⟨U316, U315, V315, V316, (0 : Int64), rfl, N332, f334, f335, f336, ?_⟩
      refine ⟨by have a1 := sel274; have b1 := h_ca; have b2 := h_cb; have b3 := h_cc; have b4 := h_cd; omega, by have a1 := sel274; have b1 := h_ca; have b2 := h_cb; have b3 := h_cc; have b4 := h_cd; omega, by have a1 := sel274; have b1 := h_ca; have b2 := h_cb; have b3 := h_cc; have b4 := h_cd; omega, by have a1 := sel274; have b1 := h_ca; have b2 := h_cb; have b3 := h_cc; have b4 := h_cd; omega, by have a1 := sel274; have b1 := h_ca; have b2 := h_cb; have b3 := h_cc; have b4 := h_cd; omega, by have a1 := sel274; have b1 := h_ca; have b2 := h_cb; have b3 := h_cc; have b4 := h_cd; omega, by have a1 := sel274; have b1 := h_ca; have b2 := h_cb; have b3 := h_cc; have b4 := h_cd; omega, by have a1 := sel274; have b1 := h_ca; have b2 := h_cb; have b3 := h_cc; have b4 := h_cd; omega, by have a1 := sel274; have b1 := h_ca; have b2 := h_cb; have b3 := h_cc; have b4 := h_cd; omega, by have a1 := sel274; have b1 := h_ca; have b2 := h_cb; have b3 := h_cc; have b4 := h_cd; omega, by have a1 := sel274; have b1 := h_ca; have b2 := h_cb; have b3 := h_cc; have b4 := h_cd; omega⟩
  · -- next 2
    clear rel267 rel272
    have d0 : 0 ≤ g272.toInt ∧ g272.toInt ≤ 1152921504606846976 := by have a1 := h_cc; have a2 := h_cd; have a3 := sel274; omega
    show Ends p.tables e below _ (T272.setTop (mkF m 191 #[.val (.ref x), .val (.int (2 : Int32)), .val (.int (2 : Int32)), .val (.int (0 : Int32)), .val (.int (2 : Int32)), .val (.ref r1), .val (.long g272), .second, .val (.int (2 : Int32)), .val (.int (3 : Int32)), sa272, sb272, sc272, sd272] []))
    refine own_iload X272 hx hby d8_191 rfl rfl ?_
    refine own_if_ge X272 hx hby d8_193 (pcY := 198) (pcN := 196) (by decide) rfl (fun (hc337 : 0 ≤ 2) => ?_) (fun (hc337 : 2 < 0) => False.elim (by exact absurd hc337 (by decide)))
    refine own_iconst X272 hx hby d8_198 rfl (0 : Int32) rfl ?_
    refine own_istore X272 hx hby d8_199 rfl #[.val (.ref x), .val (.int (2 : Int32)), .val (.int (2 : Int32)), .val (.int (0 : Int32)), .val (.int (2 : Int32)), .val (.ref r1), .val (.long g272), .second, .val (.int (2 : Int32)), .val (.int (0 : Int32)), sa272, sb272, sc272, sd272] rfl ?_
    refine upd0_2 hx hby hml hown hZ hw ord B272 Aup272 Avp272 Aho272 Apr272 Are272 Adn272 own_b0 bd_V0 d0 N272 X272 e272 (fun T338 h338 L338 U338 V338 X338 e338 N338 B338 Aup338 Avp338 Aho338 Apr338 Are338 Adn338 eu338 ev338 => ?_)
    have bd_U338 : OwnBd U338 := by have a1 := sel274; have bca := h_ca; have bcb := h_cb; have bcc := h_cc; have bcd := h_cd; omega
    have bd_V338 : OwnBd V338 := by have a1 := sel274; have bca := h_ca; have bcb := h_cb; have bcc := h_cc; have bcd := h_cd; omega
    show Ends p.tables e below _ (T338.setTop (mkF m 201 #[.val (.ref x), .val (.int (2 : Int32)), .val (.int (2 : Int32)), .val (.int (0 : Int32)), .val (.int (2 : Int32)), .val (.ref r1), .val (.long g272), .second, .val (.int (2 : Int32)), .val (.int (1 : Int32)), sa272, sb272, sc272, sd272] []))
    refine updn1 hx hby hml hown hZ hw ord B338 Aup338 Avp338 Aho338 Apr338 Are338 Adn338 (by have a1 := sel274; have bca := h_ca; have bcb := h_cb; have bcc := h_cc; have bcd := h_cd; omega) d0 N338 X338 e338 (fun T339 h339 L339 Q339 X339 e339 N339 B339 Aup339 Avp339 Aho339 Apr339 Are339 Adn339 un_1 => ?_)
    show Ends p.tables e below _ (T339.setTop (mkF m 201 #[.val (.ref x), .val (.int (2 : Int32)), .val (.int (2 : Int32)), .val (.int (0 : Int32)), .val (.int (2 : Int32)), .val (.ref r1), .val (.long g272), .second, .val (.int (2 : Int32)), .val (.int (2 : Int32)), sa272, sb272, sc272, sd272] []))
    refine updn2 hx hby hml hown hZ hw ord B339 Aup339 Avp339 Aho339 Apr339 Are339 Adn339 (by have a1 := sel274; have bca := h_ca; have bcb := h_cb; have bcc := h_cc; have bcd := h_cd; omega) d0 N339 X339 e339 (fun T340 h340 L340 Q340 X340 e340 N340 B340 Aup340 Avp340 Aho340 Apr340 Are340 Adn340 un_2 => ?_)
    show Ends p.tables e below _ (T340.setTop (mkF m 201 #[.val (.ref x), .val (.int (2 : Int32)), .val (.int (2 : Int32)), .val (.int (0 : Int32)), .val (.int (2 : Int32)), .val (.ref r1), .val (.long g272), .second, .val (.int (2 : Int32)), .val (.int (3 : Int32)), sa272, sb272, sc272, sd272] []))
    refine own_iload X340 hx hby d8_201 rfl rfl ?_
    refine own_iloadN X340 hx hby d8_203 rfl rfl ?_
    refine own_icmp_gt X340 hx hby d8_204 (pcY := 281) (pcN := 207) (by decide) rfl (fun (hc341 : 2 < 3) => ?_) (fun (hc341 : 3 ≤ 2) => False.elim (by exact absurd hc341 (by decide)))
    refine own_iload X340 hx hby d8_281 rfl rfl ?_
    refine own_istoreN X340 hx hby d8_283 rfl #[.val (.ref x), .val (.int (2 : Int32)), .val (.int (2 : Int32)), .val (.int (2 : Int32)), .val (.int (2 : Int32)), .val (.ref r1), .val (.long g272), .second, .val (.int (2 : Int32)), .val (.int (3 : Int32)), sa272, sb272, sc272, sd272] rfl ?_
    refine own_aloadN X340 hx hby d8_284 rfl rfl rfl ?_
    refine own_getfield X340 hx hby hZ hown (host := "") (Or.inl (hw _ tw_20)) Via.refl e340 (B_holder B340) d8_285 rfl (fun T342 X342 e342 => ?_)
    refine own_iloadN X342 hx hby d8_288 rfl rfl ?_
    refine own_iaload X342 hx hby hZ (0 : Int32) e342 Aho340 (by decide) rfl d8_289 rfl ?_
    refine own_if_ne X342 hx hby d8_290 (pcY := 35) (pcN := 293) (by decide) rfl (fun (hc343 : ¬ (0 : Int32) = (0 : Int32)) => False.elim (by exact absurd hc343 (by decide))) (fun (hc343 : (0 : Int32) = (0 : Int32)) => ?_)
    refine own_iloadN X342 hx hby d8_293 rfl rfl ?_
    refine own_if_eq X342 hx hby d8_294 (pcY := 324) (pcN := 297) (by decide) rfl (fun (hc344 : (2 : Int32) = (0 : Int32)) => False.elim (by exact absurd hc344 (by decide))) (fun (hc344 : ¬ (2 : Int32) = (0 : Int32)) => ?_)
    refine own_aloadN X342 hx hby d8_297 rfl rfl rfl ?_
    refine own_getfield X342 hx hby hZ hown (host := "") (Or.inl (hw _ tw_22)) Via.refl e342 (B_previous B340) d8_298 rfl (fun T345 X345 e345 => ?_)
    refine own_iloadN X345 hx hby d8_301 rfl rfl ?_
    refine own_iaload X345 hx hby hZ (0 : Int32) e345 Apr340 (by decide) rfl d8_302 rfl ?_
    refine own_istore X345 hx hby d8_303 rfl #[.val (.ref x), .val (.int (2 : Int32)), .val (.int (2 : Int32)), .val (.int (2 : Int32)), .val (.int (0 : Int32)), .val (.ref r1), .val (.long g272), .second, .val (.int (2 : Int32)), .val (.int (3 : Int32)), sa272, sb272, sc272, sd272] rfl ?_
    refine own_aloadN X345 hx hby d8_305 rfl rfl rfl ?_
    refine own_getfield X345 hx hby hZ hown (host := "") (Or.inl (hw _ tw_20)) Via.refl e345 (B_holder B340) d8_306 rfl (fun T346 X346 e346 => ?_)
    refine own_iloadN X346 hx hby d8_309 rfl rfl ?_
    refine own_aloadN X346 hx hby d8_310 rfl rfl rfl ?_
    refine own_getfield X346 hx hby hZ hown (host := "") (Or.inl (hw _ tw_20)) Via.refl e346 (B_holder B340) d8_311 rfl (fun T347 X347 e347 => ?_)
    refine own_iload X347 hx hby d8_314 rfl rfl ?_
    refine own_iaload X347 hx hby hZ (2 : Int32) e347 Aho340 (by decide) rfl d8_316 rfl ?_
    refine own_iastore X347 hx hby hZ (2 : Int32) rfl e347 Aho340 (by decide) 2 rfl (show 2 < 3 by decide) [(.int (2 : Int32)), (.int (1 : Int32)), (.int (2 : Int32))] rfl rfl N340 (ge_ho ord) d8_317 rfl (fun T348 h348 L348 X348 e348 W348 V348 N348 => ?_)
    refine own_iload X348 hx hby d8_318 rfl rfl ?_
    refine own_istoreN X348 hx hby d8_320 rfl #[.val (.ref x), .val (.int (2 : Int32)), .val (.int (2 : Int32)), .val (.int (0 : Int32)), .val (.int (0 : Int32)), .val (.ref r1), .val (.long g272), .second, .val (.int (2 : Int32)), .val (.int (3 : Int32)), sa272, sb272, sc272, sd272] rfl ?_
    refine own_goto X348 hx hby d8_321 (pc' := 293) (by decide) ?_
    refine own_iloadN X348 hx hby d8_293 rfl rfl ?_
    refine own_if_eq X348 hx hby d8_294 (pcY := 324) (pcN := 297) (by decide) rfl (fun (hc349 : (0 : Int32) = (0 : Int32)) => ?_) (fun (hc349 : ¬ (0 : Int32) = (0 : Int32)) => False.elim (by exact absurd hc349 (by decide)))
    refine own_iconst X348 hx hby d8_324 rfl (1 : Int32) rfl ?_
    refine own_ret X348 hx hby hret hlk d8_325 (.int (1 : Int32)) rfl (Or.inl ⟨rfl, by simp, _, rfl⟩) (by decide) (by decide) ?_
    have f350 := (own_Bw B340 W348 (ne_x_ho ord) (ne_cs_ho ord) (ne_r0_ho ord) (ne_r1_ho ord))
    have f351 := (Aup340.other W348 (ne_up_ho ord))
    have f352 := (Avp340.other W348 (ne_vp_ho ord))
    rw [e348]
    refine ⟨U1, U338, V338, (0 : Int64), (0 : Int64), rfl, N348, f350, f351, f352, ?_⟩
    refine ⟨by have a1 := sel274; have b1 := h_ca; have b2 := h_cb; have b3 := h_cc; have b4 := h_cd; omega, by have a1 := sel274; have b1 := h_ca; have b2 := h_cb; have b3 := h_cc; have b4 := h_cd; omega, by have a1 := sel274; have b1 := h_ca; have b2 := h_cb; have b3 := h_cc; have b4 := h_cd; omega, by have a1 := sel274; have b1 := h_ca; have b2 := h_cb; have b3 := h_cc; have b4 := h_cd; omega, by have a1 := sel274; have b1 := h_ca; have b2 := h_cb; have b3 := h_cc; have b4 := h_cd; omega, by have a1 := sel274; have b1 := h_ca; have b2 := h_cb; have b3 := h_cc; have b4 := h_cd; omega, by have a1 := sel274; have b1 := h_ca; have b2 := h_cb; have b3 := h_cc; have b4 := h_cd; omega, by have a1 := sel274; have b1 := h_ca; have b2 := h_cb; have b3 := h_cc; have b4 := h_cd; omega, by have a1 := sel274; have b1 := h_ca; have b2 := h_cb; have b3 := h_cc; have b4 := h_cd; omega, by have a1 := sel274; have b1 := h_ca; have b2 := h_cb; have b3 := h_cc; have b4 := h_cd; omega, by have a1 := sel274; have b1 := h_ca; have b2 := h_cb; have b3 := h_cc; have b4 := h_cd; omega⟩
set_option maxRecDepth 65536 in
set_option maxHeartbeats 40000000 in
theorem rmaug2_2 (l : Launch) (Z : State) (a0 : Array Value) (hw : ∀ d ∈ tables_1, d.before a0 Z = true) (x : Addr) (h0 : Heap) (n0 : Nat) {cs r0 r1 up vp ho pr re dn : Addr} {kc k0 k1 ku kv kh kp kr kd : ClassId} {ca cb cc cd : Int64} {U1 V0 Q0 Q1 Q2 : Int64} {P0 P1 P2 D0 D1 D2 : Int32} (ord : OwnOrd n0 x cs r0 r1 up vp ho pr re dn) (B : OwnB Z h0 x cs r0 r1 up vp ho pr re dn kc k0 k1 ca cb cc cd) (Aup : Arv Z h0 up ku .long (3 : Int32) [(.long (0 : Int64)), (.long U1), (.long (0 : Int64))] (.long 0)) (Avp : Arv Z h0 vp kv .long (3 : Int32) [(.long V0), (.long (0 : Int64)), (.long (0 : Int64))] (.long 0)) (Aho : Arv Z h0 ho kh .int (3 : Int32) [(.int (1 : Int32)), (.int (0 : Int32)), (.int (1 : Int32))] (.int 0)) (Apr : Arv Z h0 pr kp .int (3 : Int32) [(.int P0), (.int P1), (.int P2)] (.int 0)) (Are : Arv Z h0 re kr .long (3 : Int32) [(.long Q0), (.long Q1), (.long Q2)] (.long 0)) (Adn : Arv Z h0 dn kd .boolean (3 : Int32) [(.int D0), (.int D1), (.int D2)] (.int 0)) (h_ca : OwnCost ca) (h_cb : OwnCost cb) (h_cc : OwnCost cc) (h_cd : OwnCost cd) (hn_cacb : ¬ (ca.toInt = 9223372036854775807 ∧ cb.toInt = 9223372036854775807)) (hn_cccd : ¬ (cc.toInt = 9223372036854775807 ∧ cd.toInt = 9223372036854775807)) (hn_ca : ¬ (ca.toInt = 9223372036854775807 ∧ cc.toInt = 9223372036854775807)) (hn_cb : ¬ (cb.toInt = 9223372036854775807 ∧ cd.toInt = 9223372036854775807)) (hn_ad : ¬ (ca.toInt = 9223372036854775807 ∧ cd.toInt = 9223372036854775807)) (hn_bc : ¬ (cb.toInt = 9223372036854775807 ∧ cc.toInt = 9223372036854775807)) (hU : 0 ≤ U1.toInt ∧ U1.toInt < 1152921504606846976) (hV : V0.toInt = -U1.toInt) (hj1 : cb.toInt ≠ 9223372036854775807) (hj2 : U1.toInt = cb.toInt) (hj3 : ca.toInt = 9223372036854775807 ∨ cb.toInt ≤ ca.toInt) :
    OwnMet l Z (⟨"com/example/weftwork/weftwork/algorithm/Assignment", "augment", "(II)Z"⟩ : MethodName) prog_3_method_7_code 14 (some .boolean) [] ({ frames := 2, cells := 0, slots := 0, locals := 31 } : Room) #[(.ref x), (.int (2 : Int32)), (.int (2 : Int32))] h0 (fun v h L => ∃ (Ua Ub Va Vb Vc : Int64), v = some (.int 1) ∧ Fr n0 L ∧ OwnB Z h x cs r0 r1 up vp ho pr re dn kc k0 k1 ca cb cc cd ∧ Arv Z h up ku .long (3 : Int32) [(.long (0 : Int64)), (.long Ua), (.long Ub)] (.long 0) ∧ Arv Z h vp kv .long (3 : Int32) [(.long Va), (.long Vb), (.long Vc)] (.long 0) ∧ OwnDual ca cb cc cd Ua Ub Va Vb Vc) := by
  refine own_body (plainFor_of_name pn_1) (fun m => ef_aug2_2 m x) ?_
  intro p e s m below meth c s₁ X0 hx hby hml hown hnm hret hlk hZ e0
  replace hown : s.vm.findClass "com/example/weftwork/weftwork/algorithm/Assignment" = some m.cls := hown
  replace hml : c.maxLocals = 14 := hml
  have N0 := Fr.nil n0
  have bd_U1 : OwnBd U1 := by omega
  have bd_V0 : OwnBd V0 := by omega
  show Ends p.tables e below _ (s₁.setTop (mkF m 0 #[.val (.ref x), .val (.int (2 : Int32)), .val (.int (2 : Int32)), .unset, .unset, .unset, .unset, .unset, .unset, .unset, .unset, .unset, .unset, .unset] []))
  have k0 : (0 : Int64).toInt = 0 := rfl
  have kN := own_iN
  have i0 : (0 : Int32).toInt = 0 := rfl
  have i1 : (1 : Int32).toInt = 1 := rfl
  have i2 : (2 : Int32).toInt = 2 := rfl
  show Ends p.tables e below _ (s₁.setTop (mkF m 0 #[.val (.ref x), .val (.int (2 : Int32)), .val (.int (2 : Int32)), .unset, .unset, .unset, .unset, .unset, .unset, .unset, .unset, .unset, .unset, .unset] []))
  refine own_aloadN X0 hx hby d8_0 rfl rfl rfl ?_
  refine own_getfield X0 hx hby hZ hown (host := "") (Or.inl (hw _ tw_20)) Via.refl e0 (B_holder B) d8_1 rfl (fun T353 X353 e353 => ?_)
  refine own_iconst X353 hx hby d8_4 rfl (0 : Int32) rfl ?_
  refine own_iloadN X353 hx hby d8_5 rfl rfl ?_
  refine own_iastore X353 hx hby hZ (2 : Int32) rfl e353 Aho (by decide) 0 rfl (show 0 < 3 by decide) [(.int (2 : Int32)), (.int (0 : Int32)), (.int (1 : Int32))] rfl rfl N0 (ge_ho ord) d8_6 rfl (fun T354 h354 L354 X354 e354 W354 V354 N354 => ?_)
  refine own_iconst X354 hx hby d8_7 rfl (0 : Int32) rfl ?_
  refine own_istoreN X354 hx hby d8_8 rfl #[.val (.ref x), .val (.int (2 : Int32)), .val (.int (2 : Int32)), .val (.int (0 : Int32)), .unset, .unset, .unset, .unset, .unset, .unset, .unset, .unset, .unset, .unset] rfl ?_
  refine own_aloadN X354 hx hby d8_9 rfl rfl rfl ?_
  have f355 := (own_Bw B W354 (ne_x_ho ord) (ne_cs_ho ord) (ne_r0_ho ord) (ne_r1_ho ord))
  refine own_getfield X354 hx hby hZ hown (host := "") (Or.inl (hw _ tw_24)) Via.refl e354 (B_reach f355) d8_10 rfl (fun T356 X356 e356 => ?_)
  refine own_iconst X356 hx hby d8_13 rfl (0 : Int32) rfl ?_
  refine own_iloadN X356 hx hby d8_14 rfl rfl ?_
  refine own_iconst X356 hx hby d8_15 rfl (1 : Int32) rfl ?_
  refine own_iadd X356 hx hby d8_16 rfl ?_
  show Ends p.tables e below _ (T356.setTop (mkF m 17 #[.val (.ref x), .val (.int (2 : Int32)), .val (.int (2 : Int32)), .val (.int (0 : Int32)), .unset, .unset, .unset, .unset, .unset, .unset, .unset, .unset, .unset, .unset] [(.int (3 : Int32)), (.int (0 : Int32)), (.ref re)]))
  refine own_ldc2J X356 hx hby hZ hown (hw _ tw_53) d8_17 rfl ?_
  have f358 := (Are.other W354 (ne_re_ho ord))
  refine own_static X356 hx hby hZ (argsL := [(.ref re), (.int (0 : Int32)), (.int (3 : Int32)), (.long (9223372036854775807 : Int64))]) (rest := []) hown (hw _ tw_39) (hw _ tw_40) (hw _ tw_41) (hw _ tw_42) (by decide) (rm5 l Z a0 hw re (9223372036854775807 : Int64) h354 n0 (ge_re ord) f358) e356 (by rw [hml]; rfl) pd_1 rfl (by decide) (W := 0) (Nat.le_refl _) (by decide) (by decide) (by decide) d8_20 rfl rfl (fun v357 T357 L357 X357 hQ357 => ?_)
  obtain ⟨rfl, N357q, K357, V357⟩ := hQ357
  show Ends p.tables e below _ (T357.setTop (mkF m 23 #[.val (.ref x), .val (.int (2 : Int32)), .val (.int (2 : Int32)), .val (.int (0 : Int32)), .unset, .unset, .unset, .unset, .unset, .unset, .unset, .unset, .unset, .unset] []))
  refine own_aloadN X357 hx hby d8_23 rfl rfl rfl ?_
  have f359 := (own_Bk f355 K357 (ne_x_re ord) (ne_cs_re ord) (ne_r0_re ord) (ne_r1_re ord))
  refine own_getfield X357 hx hby hZ hown (host := "") (Or.inl (hw _ tw_27)) Via.refl rfl (B_done f359) d8_24 rfl (fun T360 X360 e360 => ?_)
  refine own_iconst X360 hx hby d8_27 rfl (0 : Int32) rfl ?_
  refine own_iloadN X360 hx hby d8_28 rfl rfl ?_
  refine own_iconst X360 hx hby d8_29 rfl (1 : Int32) rfl ?_
  refine own_iadd X360 hx hby d8_30 rfl ?_
  show Ends p.tables e below _ (T360.setTop (mkF m 31 #[.val (.ref x), .val (.int (2 : Int32)), .val (.int (2 : Int32)), .val (.int (0 : Int32)), .unset, .unset, .unset, .unset, .unset, .unset, .unset, .unset, .unset, .unset] [(.int (3 : Int32)), (.int (0 : Int32)), (.ref dn)]))
  refine own_iconst X360 hx hby d8_31 rfl (0 : Int32) rfl ?_
  have f362 := ((Adn.other W354 (ne_dn_ho ord)).keep K357 (ninS (ne_dn_re ord) nin0))
  refine own_static X360 hx hby hZ (argsL := [(.ref dn), (.int (0 : Int32)), (.int (3 : Int32)), (.int (0 : Int32))]) (rest := []) hown (hw _ tw_54) (hw _ tw_55) (hw _ tw_41) (hw _ tw_56) (by decide) (rm9 l Z a0 hw dn T357.heap n0 (ge_dn ord) f362) e360 (by rw [hml]; rfl) pd_2 rfl (by decide) (W := 0) (Nat.le_refl _) (by decide) (by decide) (by decide) d8_32 rfl rfl (fun v361 T361 L361 X361 hQ361 => ?_)
  obtain ⟨rfl, N361q, K361, V361⟩ := hQ361
  show Ends p.tables e below _ (T361.setTop (mkF m 35 #[.val (.ref x), .val (.int (2 : Int32)), .val (.int (2 : Int32)), .val (.int (0 : Int32)), .unset, .unset, .unset, .unset, .unset, .unset, .unset, .unset, .unset, .unset] []))
  refine own_aloadN X361 hx hby d8_35 rfl rfl rfl ?_
  have f363 := (own_Bk f359 K361 (ne_x_dn ord) (ne_cs_dn ord) (ne_r0_dn ord) (ne_r1_dn ord))
  refine own_getfield X361 hx hby hZ hown (host := "") (Or.inl (hw _ tw_27)) Via.refl rfl (B_done f363) d8_36 rfl (fun T364 X364 e364 => ?_)
  refine own_iloadN X364 hx hby d8_39 rfl rfl ?_
  refine own_iconst X364 hx hby d8_40 rfl (1 : Int32) rfl ?_
  refine own_zastore X364 hx hby hZ (1 : Int32) rfl e364 V361 (by decide) 0 rfl (show 0 < 3 by decide) [(.int (1 : Int32)), (.int (0 : Int32)), (.int (0 : Int32))] rfl rfl (Fr.app (Fr.app N354 N357q) N361q) (ge_dn ord) d8_41 rfl (fun T365 h365 L365 X365 e365 W365 V365 N365 => ?_)
  refine own_aloadN X365 hx hby d8_42 rfl rfl rfl ?_
  have f366 := (own_Bw f363 W365 (ne_x_dn ord) (ne_cs_dn ord) (ne_r0_dn ord) (ne_r1_dn ord))
  refine own_getfield X365 hx hby hZ hown (host := "") (Or.inl (hw _ tw_20)) Via.refl e365 (B_holder f366) d8_43 rfl (fun T367 X367 e367 => ?_)
  refine own_iloadN X367 hx hby d8_46 rfl rfl ?_
  have f368 := (((V354.keep K357 (ninS (ne_ho_re ord) nin0)).keep K361 (ninS (ne_ho_dn ord) nin0)).other W365 (ne_ho_dn ord))
  refine own_iaload X367 hx hby hZ (2 : Int32) e367 f368 (by decide) rfl d8_47 rfl ?_
  refine own_istore X367 hx hby d8_48 rfl #[.val (.ref x), .val (.int (2 : Int32)), .val (.int (2 : Int32)), .val (.int (0 : Int32)), .val (.int (2 : Int32)), .unset, .unset, .unset, .unset, .unset, .unset, .unset, .unset, .unset] rfl ?_
  refine own_aloadN X367 hx hby d8_50 rfl rfl rfl ?_
  refine own_getfield X367 hx hby hZ hown (host := "") (Or.inl (hw _ tw_13)) Via.refl e367 (B_costs f366) d8_51 rfl (fun T369 X369 e369 => ?_)
  refine own_iload X369 hx hby d8_54 rfl rfl ?_
  refine own_iconst X369 hx hby d8_56 rfl (1 : Int32) rfl ?_
  refine own_isub X369 hx hby d8_57 rfl ?_
  show Ends p.tables e below _ (T369.setTop (mkF m 58 #[.val (.ref x), .val (.int (2 : Int32)), .val (.int (2 : Int32)), .val (.int (0 : Int32)), .val (.int (2 : Int32)), .unset, .unset, .unset, .unset, .unset, .unset, .unset, .unset, .unset] [(.int (1 : Int32)), (.ref cs)]))
  refine own_aaload X369 hx hby hZ (.ref r1) rfl e369 (B_cs f366) (by decide) rfl d8_58 rfl ?_
  refine own_astore X369 hx hby d8_59 rfl #[.val (.ref x), .val (.int (2 : Int32)), .val (.int (2 : Int32)), .val (.int (0 : Int32)), .val (.int (2 : Int32)), .val (.ref r1), .unset, .unset, .unset, .unset, .unset, .unset, .unset, .unset] rfl rfl ?_
  refine own_ldc2J X369 hx hby hZ hown (hw _ tw_53) d8_61 rfl ?_
  refine own_lstore X369 hx hby d8_64 rfl #[.val (.ref x), .val (.int (2 : Int32)), .val (.int (2 : Int32)), .val (.int (0 : Int32)), .val (.int (2 : Int32)), .val (.ref r1), .val (.long (9223372036854775807 : Int64)), .second, .unset, .unset, .unset, .unset, .unset, .unset] rfl ?_
  refine own_iconst X369 hx hby d8_66 rfl (-1 : Int32) rfl ?_
  refine own_istore X369 hx hby d8_67 rfl #[.val (.ref x), .val (.int (2 : Int32)), .val (.int (2 : Int32)), .val (.int (0 : Int32)), .val (.int (2 : Int32)), .val (.ref r1), .val (.long (9223372036854775807 : Int64)), .second, .val (.int (-1 : Int32)), .unset, .unset, .unset, .unset, .unset] rfl ?_
  refine own_iconst X369 hx hby d8_69 rfl (1 : Int32) rfl ?_
  refine own_istore X369 hx hby d8_70 rfl #[.val (.ref x), .val (.int (2 : Int32)), .val (.int (2 : Int32)), .val (.int (0 : Int32)), .val (.int (2 : Int32)), .val (.ref r1), .val (.long (9223372036854775807 : Int64)), .second, .val (.int (-1 : Int32)), .val (.int (1 : Int32)), .unset, .unset, .unset, .unset] rfl ?_
  have f371 := ((((Aup.other W354 (ne_up_ho ord)).keep K357 (ninS (ne_up_re ord) nin0)).keep K361 (ninS (ne_up_dn ord) nin0)).other W365 (ne_up_dn ord))
  have f372 := ((((Avp.other W354 (ne_vp_ho ord)).keep K357 (ninS (ne_vp_re ord) nin0)).keep K361 (ninS (ne_vp_dn ord) nin0)).other W365 (ne_vp_dn ord))
  have f373 := ((((Apr.other W354 (ne_pr_ho ord)).keep K357 (ninS (ne_pr_re ord) nin0)).keep K361 (ninS (ne_pr_dn ord) nin0)).other W365 (ne_pr_dn ord))
  have f374 := ((V357.keep K361 (ninS (ne_re_dn ord) nin0)).other W365 (ne_re_dn ord))
  refine scan1 hx hby hml hown hZ hw ord f366 f371 f372 f368 f373 f374 V365 (c1 := cc) (c2 := cd) (B_r1 f366) (ne_r1_re ord) (ne_r1_pr ord) (r := (2 : Int32)) (u := (0 : Int64)) (by decide) rfl h_cc own_b0 own_b0 (Or.inl ⟨rfl, rfl⟩) (Or.inl ⟨rfl, rfl⟩) N365 X369 e369 (fun T370 h370 L370 Q370 g370 P370 n370 sa370 sb370 sc370 sd370 X370 e370 N370 B370 Aup370 Avp370 Aho370 Apr370 Are370 Adn370 p10_370 p12_370 rel370 => ?_)
  show Ends p.tables e below _ (T370.setTop (mkF m 72 #[.val (.ref x), .val (.int (2 : Int32)), .val (.int (2 : Int32)), .val (.int (0 : Int32)), .val (.int (2 : Int32)), .val (.ref r1), .val (.long g370), .second, .val (.int n370), .val (.int (2 : Int32)), sa370, sb370, sc370, sd370] []))
  refine scan2 hx hby hml hown hZ hw ord B370 Aup370 Avp370 Aho370 Apr370 Are370 Adn370 (c1 := cc) (c2 := cd) (B_r1 B370) (ne_r1_re ord) (ne_r1_pr ord) (r := (2 : Int32)) (u := (0 : Int64)) (by decide) rfl h_cd own_b0 own_b0 p10_370 p12_370 N370 X370 e370 (fun T375 h375 L375 Q375 g375 P375 n375 sa375 sb375 sc375 sd375 X375 e375 N375 B375 Aup375 Avp375 Aho375 Apr375 Are375 Adn375 p10_375 p12_375 rel375 => ?_)
  show Ends p.tables e below _ (T375.setTop (mkF m 72 #[.val (.ref x), .val (.int (2 : Int32)), .val (.int (2 : Int32)), .val (.int (0 : Int32)), .val (.int (2 : Int32)), .val (.ref r1), .val (.long g375), .second, .val (.int n375), .val (.int (3 : Int32)), sa375, sb375, sc375, sd375] []))
  refine own_iload X375 hx hby d8_72 rfl rfl ?_
  refine own_iloadN X375 hx hby d8_74 rfl rfl ?_
  refine own_icmp_gt X375 hx hby d8_75 (pcY := 191) (pcN := 78) (by decide) rfl (fun (hc376 : 2 < 3) => ?_) (fun (hc376 : 3 ≤ 2) => False.elim (by exact absurd hc376 (by decide)))
  rcases own_selA h_cc h_cd hn_cccd rel370 rel375 with ⟨rfl, rfl, sel377⟩ | ⟨rfl, rfl, sel377⟩
  · -- next 1
    clear rel370 rel375
    have d0 : 0 ≤ g375.toInt ∧ g375.toInt ≤ 1152921504606846976 := by have a1 := h_cc; have a2 := h_cd; have a3 := sel377; omega
    show Ends p.tables e below _ (T375.setTop (mkF m 191 #[.val (.ref x), .val (.int (2 : Int32)), .val (.int (2 : Int32)), .val (.int (0 : Int32)), .val (.int (2 : Int32)), .val (.ref r1), .val (.long g375), .second, .val (.int (1 : Int32)), .val (.int (3 : Int32)), sa375, sb375, sc375, sd375] []))
    refine own_iload X375 hx hby d8_191 rfl rfl ?_
    refine own_if_ge X375 hx hby d8_193 (pcY := 198) (pcN := 196) (by decide) rfl (fun (hc378 : 0 ≤ 1) => ?_) (fun (hc378 : 1 < 0) => False.elim (by exact absurd hc378 (by decide)))
    refine own_iconst X375 hx hby d8_198 rfl (0 : Int32) rfl ?_
    refine own_istore X375 hx hby d8_199 rfl #[.val (.ref x), .val (.int (2 : Int32)), .val (.int (2 : Int32)), .val (.int (0 : Int32)), .val (.int (2 : Int32)), .val (.ref r1), .val (.long g375), .second, .val (.int (1 : Int32)), .val (.int (0 : Int32)), sa375, sb375, sc375, sd375] rfl ?_
    refine upd0_2 hx hby hml hown hZ hw ord B375 Aup375 Avp375 Aho375 Apr375 Are375 Adn375 own_b0 bd_V0 d0 N375 X375 e375 (fun T379 h379 L379 U379 V379 X379 e379 N379 B379 Aup379 Avp379 Aho379 Apr379 Are379 Adn379 eu379 ev379 => ?_)
    have bd_U379 : OwnBd U379 := by have a1 := sel377; have bca := h_ca; have bcb := h_cb; have bcc := h_cc; have bcd := h_cd; omega
    have bd_V379 : OwnBd V379 := by have a1 := sel377; have bca := h_ca; have bcb := h_cb; have bcc := h_cc; have bcd := h_cd; omega
    show Ends p.tables e below _ (T379.setTop (mkF m 201 #[.val (.ref x), .val (.int (2 : Int32)), .val (.int (2 : Int32)), .val (.int (0 : Int32)), .val (.int (2 : Int32)), .val (.ref r1), .val (.long g375), .second, .val (.int (1 : Int32)), .val (.int (1 : Int32)), sa375, sb375, sc375, sd375] []))
    refine updn1 hx hby hml hown hZ hw ord B379 Aup379 Avp379 Aho379 Apr379 Are379 Adn379 (by have a1 := sel377; have bca := h_ca; have bcb := h_cb; have bcc := h_cc; have bcd := h_cd; omega) d0 N379 X379 e379 (fun T380 h380 L380 Q380 X380 e380 N380 B380 Aup380 Avp380 Aho380 Apr380 Are380 Adn380 un_1 => ?_)
    show Ends p.tables e below _ (T380.setTop (mkF m 201 #[.val (.ref x), .val (.int (2 : Int32)), .val (.int (2 : Int32)), .val (.int (0 : Int32)), .val (.int (2 : Int32)), .val (.ref r1), .val (.long g375), .second, .val (.int (1 : Int32)), .val (.int (2 : Int32)), sa375, sb375, sc375, sd375] []))
    refine updn2 hx hby hml hown hZ hw ord B380 Aup380 Avp380 Aho380 Apr380 Are380 Adn380 (by have a1 := sel377; have bca := h_ca; have bcb := h_cb; have bcc := h_cc; have bcd := h_cd; omega) d0 N380 X380 e380 (fun T381 h381 L381 Q381 X381 e381 N381 B381 Aup381 Avp381 Aho381 Apr381 Are381 Adn381 un_2 => ?_)
    show Ends p.tables e below _ (T381.setTop (mkF m 201 #[.val (.ref x), .val (.int (2 : Int32)), .val (.int (2 : Int32)), .val (.int (0 : Int32)), .val (.int (2 : Int32)), .val (.ref r1), .val (.long g375), .second, .val (.int (1 : Int32)), .val (.int (3 : Int32)), sa375, sb375, sc375, sd375] []))
    refine own_iload X381 hx hby d8_201 rfl rfl ?_
    refine own_iloadN X381 hx hby d8_203 rfl rfl ?_
    refine own_icmp_gt X381 hx hby d8_204 (pcY := 281) (pcN := 207) (by decide) rfl (fun (hc382 : 2 < 3) => ?_) (fun (hc382 : 3 ≤ 2) => False.elim (by exact absurd hc382 (by decide)))
    refine own_iload X381 hx hby d8_281 rfl rfl ?_
    refine own_istoreN X381 hx hby d8_283 rfl #[.val (.ref x), .val (.int (2 : Int32)), .val (.int (2 : Int32)), .val (.int (1 : Int32)), .val (.int (2 : Int32)), .val (.ref r1), .val (.long g375), .second, .val (.int (1 : Int32)), .val (.int (3 : Int32)), sa375, sb375, sc375, sd375] rfl ?_
    refine own_aloadN X381 hx hby d8_284 rfl rfl rfl ?_
    refine own_getfield X381 hx hby hZ hown (host := "") (Or.inl (hw _ tw_20)) Via.refl e381 (B_holder B381) d8_285 rfl (fun T383 X383 e383 => ?_)
    refine own_iloadN X383 hx hby d8_288 rfl rfl ?_
    refine own_iaload X383 hx hby hZ (0 : Int32) e383 Aho381 (by decide) rfl d8_289 rfl ?_
    refine own_if_ne X383 hx hby d8_290 (pcY := 35) (pcN := 293) (by decide) rfl (fun (hc384 : ¬ (0 : Int32) = (0 : Int32)) => False.elim (by exact absurd hc384 (by decide))) (fun (hc384 : (0 : Int32) = (0 : Int32)) => ?_)
    refine own_iloadN X383 hx hby d8_293 rfl rfl ?_
    refine own_if_eq X383 hx hby d8_294 (pcY := 324) (pcN := 297) (by decide) rfl (fun (hc385 : (1 : Int32) = (0 : Int32)) => False.elim (by exact absurd hc385 (by decide))) (fun (hc385 : ¬ (1 : Int32) = (0 : Int32)) => ?_)
    refine own_aloadN X383 hx hby d8_297 rfl rfl rfl ?_
    refine own_getfield X383 hx hby hZ hown (host := "") (Or.inl (hw _ tw_22)) Via.refl e383 (B_previous B381) d8_298 rfl (fun T386 X386 e386 => ?_)
    refine own_iloadN X386 hx hby d8_301 rfl rfl ?_
    refine own_iaload X386 hx hby hZ (0 : Int32) e386 Apr381 (by decide) rfl d8_302 rfl ?_
    refine own_istore X386 hx hby d8_303 rfl #[.val (.ref x), .val (.int (2 : Int32)), .val (.int (2 : Int32)), .val (.int (1 : Int32)), .val (.int (0 : Int32)), .val (.ref r1), .val (.long g375), .second, .val (.int (1 : Int32)), .val (.int (3 : Int32)), sa375, sb375, sc375, sd375] rfl ?_
    refine own_aloadN X386 hx hby d8_305 rfl rfl rfl ?_
    refine own_getfield X386 hx hby hZ hown (host := "") (Or.inl (hw _ tw_20)) Via.refl e386 (B_holder B381) d8_306 rfl (fun T387 X387 e387 => ?_)
    refine own_iloadN X387 hx hby d8_309 rfl rfl ?_
    refine own_aloadN X387 hx hby d8_310 rfl rfl rfl ?_
    refine own_getfield X387 hx hby hZ hown (host := "") (Or.inl (hw _ tw_20)) Via.refl e387 (B_holder B381) d8_311 rfl (fun T388 X388 e388 => ?_)
    refine own_iload X388 hx hby d8_314 rfl rfl ?_
    refine own_iaload X388 hx hby hZ (2 : Int32) e388 Aho381 (by decide) rfl d8_316 rfl ?_
    refine own_iastore X388 hx hby hZ (2 : Int32) rfl e388 Aho381 (by decide) 1 rfl (show 1 < 3 by decide) [(.int (2 : Int32)), (.int (2 : Int32)), (.int (1 : Int32))] rfl rfl N381 (ge_ho ord) d8_317 rfl (fun T389 h389 L389 X389 e389 W389 V389 N389 => ?_)
    refine own_iload X389 hx hby d8_318 rfl rfl ?_
    refine own_istoreN X389 hx hby d8_320 rfl #[.val (.ref x), .val (.int (2 : Int32)), .val (.int (2 : Int32)), .val (.int (0 : Int32)), .val (.int (0 : Int32)), .val (.ref r1), .val (.long g375), .second, .val (.int (1 : Int32)), .val (.int (3 : Int32)), sa375, sb375, sc375, sd375] rfl ?_
    refine own_goto X389 hx hby d8_321 (pc' := 293) (by decide) ?_
    refine own_iloadN X389 hx hby d8_293 rfl rfl ?_
    refine own_if_eq X389 hx hby d8_294 (pcY := 324) (pcN := 297) (by decide) rfl (fun (hc390 : (0 : Int32) = (0 : Int32)) => ?_) (fun (hc390 : ¬ (0 : Int32) = (0 : Int32)) => False.elim (by exact absurd hc390 (by decide)))
    refine own_iconst X389 hx hby d8_324 rfl (1 : Int32) rfl ?_
    refine own_ret X389 hx hby hret hlk d8_325 (.int (1 : Int32)) rfl (Or.inl ⟨rfl, by simp, _, rfl⟩) (by decide) (by decide) ?_
    have f391 := (own_Bw B381 W389 (ne_x_ho ord) (ne_cs_ho ord) (ne_r0_ho ord) (ne_r1_ho ord))
    have f392 := (Aup381.other W389 (ne_up_ho ord))
    have f393 := (Avp381.other W389 (ne_vp_ho ord))
    rw [e389]
    refine ⟨U1, U379, V379, (0 : Int64), (0 : Int64), rfl, N389, f391, f392, f393, ?_⟩
    refine ⟨by have a1 := sel377; have b1 := h_ca; have b2 := h_cb; have b3 := h_cc; have b4 := h_cd; omega, by have a1 := sel377; have b1 := h_ca; have b2 := h_cb; have b3 := h_cc; have b4 := h_cd; omega, by have a1 := sel377; have b1 := h_ca; have b2 := h_cb; have b3 := h_cc; have b4 := h_cd; omega, by have a1 := sel377; have b1 := h_ca; have b2 := h_cb; have b3 := h_cc; have b4 := h_cd; omega, by have a1 := sel377; have b1 := h_ca; have b2 := h_cb; have b3 := h_cc; have b4 := h_cd; omega, by have a1 := sel377; have b1 := h_ca; have b2 := h_cb; have b3 := h_cc; have b4 := h_cd; omega, by have a1 := sel377; have b1 := h_ca; have b2 := h_cb; have b3 := h_cc; have b4 := h_cd; omega, by have a1 := sel377; have b1 := h_ca; have b2 := h_cb; have b3 := h_cc; have b4 := h_cd; omega, by have a1 := sel377; have b1 := h_ca; have b2 := h_cb; have b3 := h_cc; have b4 := h_cd; omega, by have a1 := sel377; have b1 := h_ca; have b2 := h_cb; have b3 := h_cc; have b4 := h_cd; omega, by have a1 := sel377; have b1 := h_ca; have b2 := h_cb; have b3 := h_cc; have b4 := h_cd; omega⟩
  · -- next 2
    clear rel370 rel375
    have d0 : 0 ≤ g375.toInt ∧ g375.toInt ≤ 1152921504606846976 := by have a1 := h_cc; have a2 := h_cd; have a3 := sel377; omega
    show Ends p.tables e below _ (T375.setTop (mkF m 191 #[.val (.ref x), .val (.int (2 : Int32)), .val (.int (2 : Int32)), .val (.int (0 : Int32)), .val (.int (2 : Int32)), .val (.ref r1), .val (.long g375), .second, .val (.int (2 : Int32)), .val (.int (3 : Int32)), sa375, sb375, sc375, sd375] []))
    refine own_iload X375 hx hby d8_191 rfl rfl ?_
    refine own_if_ge X375 hx hby d8_193 (pcY := 198) (pcN := 196) (by decide) rfl (fun (hc394 : 0 ≤ 2) => ?_) (fun (hc394 : 2 < 0) => False.elim (by exact absurd hc394 (by decide)))
    refine own_iconst X375 hx hby d8_198 rfl (0 : Int32) rfl ?_
    refine own_istore X375 hx hby d8_199 rfl #[.val (.ref x), .val (.int (2 : Int32)), .val (.int (2 : Int32)), .val (.int (0 : Int32)), .val (.int (2 : Int32)), .val (.ref r1), .val (.long g375), .second, .val (.int (2 : Int32)), .val (.int (0 : Int32)), sa375, sb375, sc375, sd375] rfl ?_
    refine upd0_2 hx hby hml hown hZ hw ord B375 Aup375 Avp375 Aho375 Apr375 Are375 Adn375 own_b0 bd_V0 d0 N375 X375 e375 (fun T395 h395 L395 U395 V395 X395 e395 N395 B395 Aup395 Avp395 Aho395 Apr395 Are395 Adn395 eu395 ev395 => ?_)
    have bd_U395 : OwnBd U395 := by have a1 := sel377; have bca := h_ca; have bcb := h_cb; have bcc := h_cc; have bcd := h_cd; omega
    have bd_V395 : OwnBd V395 := by have a1 := sel377; have bca := h_ca; have bcb := h_cb; have bcc := h_cc; have bcd := h_cd; omega
    show Ends p.tables e below _ (T395.setTop (mkF m 201 #[.val (.ref x), .val (.int (2 : Int32)), .val (.int (2 : Int32)), .val (.int (0 : Int32)), .val (.int (2 : Int32)), .val (.ref r1), .val (.long g375), .second, .val (.int (2 : Int32)), .val (.int (1 : Int32)), sa375, sb375, sc375, sd375] []))
    refine updn1 hx hby hml hown hZ hw ord B395 Aup395 Avp395 Aho395 Apr395 Are395 Adn395 (by have a1 := sel377; have bca := h_ca; have bcb := h_cb; have bcc := h_cc; have bcd := h_cd; omega) d0 N395 X395 e395 (fun T396 h396 L396 Q396 X396 e396 N396 B396 Aup396 Avp396 Aho396 Apr396 Are396 Adn396 un_1 => ?_)
    show Ends p.tables e below _ (T396.setTop (mkF m 201 #[.val (.ref x), .val (.int (2 : Int32)), .val (.int (2 : Int32)), .val (.int (0 : Int32)), .val (.int (2 : Int32)), .val (.ref r1), .val (.long g375), .second, .val (.int (2 : Int32)), .val (.int (2 : Int32)), sa375, sb375, sc375, sd375] []))
    refine updn2 hx hby hml hown hZ hw ord B396 Aup396 Avp396 Aho396 Apr396 Are396 Adn396 (by have a1 := sel377; have bca := h_ca; have bcb := h_cb; have bcc := h_cc; have bcd := h_cd; omega) d0 N396 X396 e396 (fun T397 h397 L397 Q397 X397 e397 N397 B397 Aup397 Avp397 Aho397 Apr397 Are397 Adn397 un_2 => ?_)
    show Ends p.tables e below _ (T397.setTop (mkF m 201 #[.val (.ref x), .val (.int (2 : Int32)), .val (.int (2 : Int32)), .val (.int (0 : Int32)), .val (.int (2 : Int32)), .val (.ref r1), .val (.long g375), .second, .val (.int (2 : Int32)), .val (.int (3 : Int32)), sa375, sb375, sc375, sd375] []))
    refine own_iload X397 hx hby d8_201 rfl rfl ?_
    refine own_iloadN X397 hx hby d8_203 rfl rfl ?_
    refine own_icmp_gt X397 hx hby d8_204 (pcY := 281) (pcN := 207) (by decide) rfl (fun (hc398 : 2 < 3) => ?_) (fun (hc398 : 3 ≤ 2) => False.elim (by exact absurd hc398 (by decide)))
    refine own_iload X397 hx hby d8_281 rfl rfl ?_
    refine own_istoreN X397 hx hby d8_283 rfl #[.val (.ref x), .val (.int (2 : Int32)), .val (.int (2 : Int32)), .val (.int (2 : Int32)), .val (.int (2 : Int32)), .val (.ref r1), .val (.long g375), .second, .val (.int (2 : Int32)), .val (.int (3 : Int32)), sa375, sb375, sc375, sd375] rfl ?_
    refine own_aloadN X397 hx hby d8_284 rfl rfl rfl ?_
    refine own_getfield X397 hx hby hZ hown (host := "") (Or.inl (hw _ tw_20)) Via.refl e397 (B_holder B397) d8_285 rfl (fun T399 X399 e399 => ?_)
    refine own_iloadN X399 hx hby d8_288 rfl rfl ?_
    refine own_iaload X399 hx hby hZ (1 : Int32) e399 Aho397 (by decide) rfl d8_289 rfl ?_
    refine own_if_ne X399 hx hby d8_290 (pcY := 35) (pcN := 293) (by decide) rfl (fun (hc400 : ¬ (1 : Int32) = (0 : Int32)) => ?_) (fun (hc400 : (1 : Int32) = (0 : Int32)) => False.elim (by exact absurd hc400 (by decide)))
    refine own_aloadN X399 hx hby d8_35 rfl rfl rfl ?_
    refine own_getfield X399 hx hby hZ hown (host := "") (Or.inl (hw _ tw_27)) Via.refl e399 (B_done B397) d8_36 rfl (fun T401 X401 e401 => ?_)
    refine own_iloadN X401 hx hby d8_39 rfl rfl ?_
    refine own_iconst X401 hx hby d8_40 rfl (1 : Int32) rfl ?_
    refine own_zastore X401 hx hby hZ (1 : Int32) rfl e401 Adn397 (by decide) 2 rfl (show 2 < 3 by decide) [(.int (1 : Int32)), (.int (0 : Int32)), (.int (1 : Int32))] rfl rfl N397 (ge_dn ord) d8_41 rfl (fun T402 h402 L402 X402 e402 W402 V402 N402 => ?_)
    refine own_aloadN X402 hx hby d8_42 rfl rfl rfl ?_
    have f403 := (own_Bw B397 W402 (ne_x_dn ord) (ne_cs_dn ord) (ne_r0_dn ord) (ne_r1_dn ord))
    refine own_getfield X402 hx hby hZ hown (host := "") (Or.inl (hw _ tw_20)) Via.refl e402 (B_holder f403) d8_43 rfl (fun T404 X404 e404 => ?_)
    refine own_iloadN X404 hx hby d8_46 rfl rfl ?_
    have f405 := (Aho397.other W402 (ne_ho_dn ord))
    refine own_iaload X404 hx hby hZ (1 : Int32) e404 f405 (by decide) rfl d8_47 rfl ?_
    refine own_istore X404 hx hby d8_48 rfl #[.val (.ref x), .val (.int (2 : Int32)), .val (.int (2 : Int32)), .val (.int (2 : Int32)), .val (.int (1 : Int32)), .val (.ref r1), .val (.long g375), .second, .val (.int (2 : Int32)), .val (.int (3 : Int32)), sa375, sb375, sc375, sd375] rfl ?_
    refine own_aloadN X404 hx hby d8_50 rfl rfl rfl ?_
    refine own_getfield X404 hx hby hZ hown (host := "") (Or.inl (hw _ tw_13)) Via.refl e404 (B_costs f403) d8_51 rfl (fun T406 X406 e406 => ?_)
    refine own_iload X406 hx hby d8_54 rfl rfl ?_
    refine own_iconst X406 hx hby d8_56 rfl (1 : Int32) rfl ?_
    refine own_isub X406 hx hby d8_57 rfl ?_
    show Ends p.tables e below _ (T406.setTop (mkF m 58 #[.val (.ref x), .val (.int (2 : Int32)), .val (.int (2 : Int32)), .val (.int (2 : Int32)), .val (.int (1 : Int32)), .val (.ref r1), .val (.long g375), .second, .val (.int (2 : Int32)), .val (.int (3 : Int32)), sa375, sb375, sc375, sd375] [(.int (0 : Int32)), (.ref cs)]))
    refine own_aaload X406 hx hby hZ (.ref r0) rfl e406 (B_cs f403) (by decide) rfl d8_58 rfl ?_
    refine own_astore X406 hx hby d8_59 rfl #[.val (.ref x), .val (.int (2 : Int32)), .val (.int (2 : Int32)), .val (.int (2 : Int32)), .val (.int (1 : Int32)), .val (.ref r0), .val (.long g375), .second, .val (.int (2 : Int32)), .val (.int (3 : Int32)), sa375, sb375, sc375, sd375] rfl rfl ?_
    refine own_ldc2J X406 hx hby hZ hown (hw _ tw_53) d8_61 rfl ?_
    refine own_lstore X406 hx hby d8_64 rfl #[.val (.ref x), .val (.int (2 : Int32)), .val (.int (2 : Int32)), .val (.int (2 : Int32)), .val (.int (1 : Int32)), .val (.ref r0), .val (.long (9223372036854775807 : Int64)), .second, .val (.int (2 : Int32)), .val (.int (3 : Int32)), sa375, sb375, sc375, sd375] rfl ?_
    refine own_iconst X406 hx hby d8_66 rfl (-1 : Int32) rfl ?_
    refine own_istore X406 hx hby d8_67 rfl #[.val (.ref x), .val (.int (2 : Int32)), .val (.int (2 : Int32)), .val (.int (2 : Int32)), .val (.int (1 : Int32)), .val (.ref r0), .val (.long (9223372036854775807 : Int64)), .second, .val (.int (-1 : Int32)), .val (.int (3 : Int32)), sa375, sb375, sc375, sd375] rfl ?_
    refine own_iconst X406 hx hby d8_69 rfl (1 : Int32) rfl ?_
    refine own_istore X406 hx hby d8_70 rfl #[.val (.ref x), .val (.int (2 : Int32)), .val (.int (2 : Int32)), .val (.int (2 : Int32)), .val (.int (1 : Int32)), .val (.ref r0), .val (.long (9223372036854775807 : Int64)), .second, .val (.int (-1 : Int32)), .val (.int (1 : Int32)), sa375, sb375, sc375, sd375] rfl ?_
    have f408 := (Aup397.other W402 (ne_up_dn ord))
    have f409 := (Avp397.other W402 (ne_vp_dn ord))
    have f410 := (Apr397.other W402 (ne_pr_dn ord))
    have f411 := (Are397.other W402 (ne_re_dn ord))
    refine scan1 hx hby hml hown hZ hw ord f403 f408 f409 f405 f410 f411 V402 (c1 := ca) (c2 := cb) (B_r0 f403) (ne_r0_re ord) (ne_r0_pr ord) (r := (1 : Int32)) (u := U1) (by decide) rfl h_ca bd_U1 own_b0 p10_375 p12_375 N402 X406 e406 (fun T407 h407 L407 Q407 g407 P407 n407 sa407 sb407 sc407 sd407 X407 e407 N407 B407 Aup407 Avp407 Aho407 Apr407 Are407 Adn407 p10_407 p12_407 rel407 => ?_)
    show Ends p.tables e below _ (T407.setTop (mkF m 72 #[.val (.ref x), .val (.int (2 : Int32)), .val (.int (2 : Int32)), .val (.int (2 : Int32)), .val (.int (1 : Int32)), .val (.ref r0), .val (.long g407), .second, .val (.int n407), .val (.int (2 : Int32)), sa407, sb407, sc407, sd407] []))
    refine own_iload X407 hx hby d8_72 rfl rfl ?_
    refine own_iloadN X407 hx hby d8_74 rfl rfl ?_
    refine own_icmp_gt X407 hx hby d8_75 (pcY := 191) (pcN := 78) (by decide) rfl (fun (hc412 : 2 < 2) => False.elim (by exact absurd hc412 (by decide))) (fun (hc412 : 2 ≤ 2) => ?_)
    refine own_aloadN X407 hx hby d8_78 rfl rfl rfl ?_
    refine own_getfield X407 hx hby hZ hown (host := "") (Or.inl (hw _ tw_27)) Via.refl e407 (B_done B407) d8_79 rfl (fun T413 X413 e413 => ?_)
    refine own_iload X413 hx hby d8_82 rfl rfl ?_
    refine own_zaload X413 hx hby hZ (1 : Int32) e413 Adn407 (by decide) rfl d8_84 rfl ?_
    refine own_if_eq X413 hx hby d8_85 (pcY := 91) (pcN := 88) (by decide) rfl (fun (hc414 : (1 : Int32) = (0 : Int32)) => False.elim (by exact absurd hc414 (by decide))) (fun (hc414 : ¬ (1 : Int32) = (0 : Int32)) => ?_)
    refine own_goto X413 hx hby d8_88 (pc' := 185) (by decide) ?_
    refine own_iinc X413 hx hby d8_185 rfl (1 : Int32) rfl #[.val (.ref x), .val (.int (2 : Int32)), .val (.int (2 : Int32)), .val (.int (2 : Int32)), .val (.int (1 : Int32)), .val (.ref r0), .val (.long g407), .second, .val (.int n407), .val (.int (3 : Int32)), sa407, sb407, sc407, sd407] rfl rfl ?_
    refine own_goto X413 hx hby d8_188 (pc' := 72) (by decide) ?_
    refine own_iload X413 hx hby d8_72 rfl rfl ?_
    refine own_iloadN X413 hx hby d8_74 rfl rfl ?_
    refine own_icmp_gt X413 hx hby d8_75 (pcY := 191) (pcN := 78) (by decide) rfl (fun (hc415 : 2 < 3) => ?_) (fun (hc415 : 3 ≤ 2) => False.elim (by exact absurd hc415 (by decide)))
    obtain ⟨rfl, d1, eq416, le0416, le1416, alt416⟩ := own_selB (c0 := ca) (c1 := cc) (cj := cd) (U1 := U1) h_ca h_cc (by have a1 := h_cd; have a2 := sel377; omega) (by have a1 := h_cb; omega) (by omega) (by omega) (by have a2 := sel377; have a3 := un_1; have a4 := h_cc; omega) rel407
    clear rel407
    rcases alt416 with ⟨rfl, alt416⟩ | ⟨rfl, alt416⟩
    · -- previous 0
      have dq : 0 ≤ g407.toInt ∧ g407.toInt ≤ 1152921504606846976 := by omega
      show Ends p.tables e below _ (T413.setTop (mkF m 191 #[.val (.ref x), .val (.int (2 : Int32)), .val (.int (2 : Int32)), .val (.int (2 : Int32)), .val (.int (1 : Int32)), .val (.ref r0), .val (.long g407), .second, .val (.int (1 : Int32)), .val (.int (3 : Int32)), sa407, sb407, sc407, sd407] []))
      refine own_iload X413 hx hby d8_191 rfl rfl ?_
      refine own_if_ge X413 hx hby d8_193 (pcY := 198) (pcN := 196) (by decide) rfl (fun (hc417 : 0 ≤ 1) => ?_) (fun (hc417 : 1 < 0) => False.elim (by exact absurd hc417 (by decide)))
      refine own_iconst X413 hx hby d8_198 rfl (0 : Int32) rfl ?_
      refine own_istore X413 hx hby d8_199 rfl #[.val (.ref x), .val (.int (2 : Int32)), .val (.int (2 : Int32)), .val (.int (2 : Int32)), .val (.int (1 : Int32)), .val (.ref r0), .val (.long g407), .second, .val (.int (1 : Int32)), .val (.int (0 : Int32)), sa407, sb407, sc407, sd407] rfl ?_
      refine upd0_2 hx hby hml hown hZ hw ord B407 Aup407 Avp407 Aho407 Apr407 Are407 Adn407 bd_U395 bd_V395 dq N407 X413 e413 (fun T418 h418 L418 U418 V418 X418 e418 N418 B418 Aup418 Avp418 Aho418 Apr418 Are418 Adn418 eu418 ev418 => ?_)
      have bd_U418 : OwnBd U418 := by have a1 := sel377; have bca := h_ca; have bcb := h_cb; have bcc := h_cc; have bcd := h_cd; omega
      have bd_V418 : OwnBd V418 := by have a1 := sel377; have bca := h_ca; have bcb := h_cb; have bcc := h_cc; have bcd := h_cd; omega
      show Ends p.tables e below _ (T418.setTop (mkF m 201 #[.val (.ref x), .val (.int (2 : Int32)), .val (.int (2 : Int32)), .val (.int (2 : Int32)), .val (.int (1 : Int32)), .val (.ref r0), .val (.long g407), .second, .val (.int (1 : Int32)), .val (.int (1 : Int32)), sa407, sb407, sc407, sd407] []))
      refine updn1 hx hby hml hown hZ hw ord B418 Aup418 Avp418 Aho418 Apr418 Are418 Adn418 (by have a1 := sel377; have bca := h_ca; have bcb := h_cb; have bcc := h_cc; have bcd := h_cd; omega) dq N418 X418 e418 (fun T419 h419 L419 Q419 X419 e419 N419 B419 Aup419 Avp419 Aho419 Apr419 Are419 Adn419 un_1 => ?_)
      show Ends p.tables e below _ (T419.setTop (mkF m 201 #[.val (.ref x), .val (.int (2 : Int32)), .val (.int (2 : Int32)), .val (.int (2 : Int32)), .val (.int (1 : Int32)), .val (.ref r0), .val (.long g407), .second, .val (.int (1 : Int32)), .val (.int (2 : Int32)), sa407, sb407, sc407, sd407] []))
      refine upd2_1 hx hby hml hown hZ hw ord B419 Aup419 Avp419 Aho419 Apr419 Are419 Adn419 bd_U1 own_b0 dq N419 X419 e419 (fun T420 h420 L420 U420 V420 X420 e420 N420 B420 Aup420 Avp420 Aho420 Apr420 Are420 Adn420 eu420 ev420 => ?_)
      have bd_U420 : OwnBd U420 := by have a1 := sel377; have bca := h_ca; have bcb := h_cb; have bcc := h_cc; have bcd := h_cd; omega
      have bd_V420 : OwnBd V420 := by have a1 := sel377; have bca := h_ca; have bcb := h_cb; have bcc := h_cc; have bcd := h_cd; omega
      show Ends p.tables e below _ (T420.setTop (mkF m 201 #[.val (.ref x), .val (.int (2 : Int32)), .val (.int (2 : Int32)), .val (.int (2 : Int32)), .val (.int (1 : Int32)), .val (.ref r0), .val (.long g407), .second, .val (.int (1 : Int32)), .val (.int (3 : Int32)), sa407, sb407, sc407, sd407] []))
      refine own_iload X420 hx hby d8_201 rfl rfl ?_
      refine own_iloadN X420 hx hby d8_203 rfl rfl ?_
      refine own_icmp_gt X420 hx hby d8_204 (pcY := 281) (pcN := 207) (by decide) rfl (fun (hc421 : 2 < 3) => ?_) (fun (hc421 : 3 ≤ 2) => False.elim (by exact absurd hc421 (by decide)))
      refine own_iload X420 hx hby d8_281 rfl rfl ?_
      refine own_istoreN X420 hx hby d8_283 rfl #[.val (.ref x), .val (.int (2 : Int32)), .val (.int (2 : Int32)), .val (.int (1 : Int32)), .val (.int (1 : Int32)), .val (.ref r0), .val (.long g407), .second, .val (.int (1 : Int32)), .val (.int (3 : Int32)), sa407, sb407, sc407, sd407] rfl ?_
      refine own_aloadN X420 hx hby d8_284 rfl rfl rfl ?_
      refine own_getfield X420 hx hby hZ hown (host := "") (Or.inl (hw _ tw_20)) Via.refl e420 (B_holder B420) d8_285 rfl (fun T422 X422 e422 => ?_)
      refine own_iloadN X422 hx hby d8_288 rfl rfl ?_
      refine own_iaload X422 hx hby hZ (0 : Int32) e422 Aho420 (by decide) rfl d8_289 rfl ?_
      refine own_if_ne X422 hx hby d8_290 (pcY := 35) (pcN := 293) (by decide) rfl (fun (hc423 : ¬ (0 : Int32) = (0 : Int32)) => False.elim (by exact absurd hc423 (by decide))) (fun (hc423 : (0 : Int32) = (0 : Int32)) => ?_)
      refine own_iloadN X422 hx hby d8_293 rfl rfl ?_
      refine own_if_eq X422 hx hby d8_294 (pcY := 324) (pcN := 297) (by decide) rfl (fun (hc424 : (1 : Int32) = (0 : Int32)) => False.elim (by exact absurd hc424 (by decide))) (fun (hc424 : ¬ (1 : Int32) = (0 : Int32)) => ?_)
      refine own_aloadN X422 hx hby d8_297 rfl rfl rfl ?_
      refine own_getfield X422 hx hby hZ hown (host := "") (Or.inl (hw _ tw_22)) Via.refl e422 (B_previous B420) d8_298 rfl (fun T425 X425 e425 => ?_)
      refine own_iloadN X425 hx hby d8_301 rfl rfl ?_
      refine own_iaload X425 hx hby hZ (0 : Int32) e425 Apr420 (by decide) rfl d8_302 rfl ?_
      refine own_istore X425 hx hby d8_303 rfl #[.val (.ref x), .val (.int (2 : Int32)), .val (.int (2 : Int32)), .val (.int (1 : Int32)), .val (.int (0 : Int32)), .val (.ref r0), .val (.long g407), .second, .val (.int (1 : Int32)), .val (.int (3 : Int32)), sa407, sb407, sc407, sd407] rfl ?_
      refine own_aloadN X425 hx hby d8_305 rfl rfl rfl ?_
      refine own_getfield X425 hx hby hZ hown (host := "") (Or.inl (hw _ tw_20)) Via.refl e425 (B_holder B420) d8_306 rfl (fun T426 X426 e426 => ?_)
      refine own_iloadN X426 hx hby d8_309 rfl rfl ?_
      refine own_aloadN X426 hx hby d8_310 rfl rfl rfl ?_
      refine own_getfield X426 hx hby hZ hown (host := "") (Or.inl (hw _ tw_20)) Via.refl e426 (B_holder B420) d8_311 rfl (fun T427 X427 e427 => ?_)
      refine own_iload X427 hx hby d8_314 rfl rfl ?_
      refine own_iaload X427 hx hby hZ (2 : Int32) e427 Aho420 (by decide) rfl d8_316 rfl ?_
      refine own_iastore X427 hx hby hZ (2 : Int32) rfl e427 Aho420 (by decide) 1 rfl (show 1 < 3 by decide) [(.int (2 : Int32)), (.int (2 : Int32)), (.int (1 : Int32))] rfl rfl N420 (ge_ho ord) d8_317 rfl (fun T428 h428 L428 X428 e428 W428 V428 N428 => ?_)
      refine own_iload X428 hx hby d8_318 rfl rfl ?_
      refine own_istoreN X428 hx hby d8_320 rfl #[.val (.ref x), .val (.int (2 : Int32)), .val (.int (2 : Int32)), .val (.int (0 : Int32)), .val (.int (0 : Int32)), .val (.ref r0), .val (.long g407), .second, .val (.int (1 : Int32)), .val (.int (3 : Int32)), sa407, sb407, sc407, sd407] rfl ?_
      refine own_goto X428 hx hby d8_321 (pc' := 293) (by decide) ?_
      refine own_iloadN X428 hx hby d8_293 rfl rfl ?_
      refine own_if_eq X428 hx hby d8_294 (pcY := 324) (pcN := 297) (by decide) rfl (fun (hc429 : (0 : Int32) = (0 : Int32)) => ?_) (fun (hc429 : ¬ (0 : Int32) = (0 : Int32)) => False.elim (by exact absurd hc429 (by decide)))
      refine own_iconst X428 hx hby d8_324 rfl (1 : Int32) rfl ?_
      refine own_ret X428 hx hby hret hlk d8_325 (.int (1 : Int32)) rfl (Or.inl ⟨rfl, by simp, _, rfl⟩) (by decide) (by decide) ?_
      have f430 := (own_Bw B420 W428 (ne_x_ho ord) (ne_cs_ho ord) (ne_r0_ho ord) (ne_r1_ho ord))
      have f431 := (Aup420.other W428 (ne_up_ho ord))
      have f432 := (Avp420.other W428 (ne_vp_ho ord))
      rw [e428]
      refine ⟨U420, U418, V418, (0 : Int64), V420, rfl, N428, f430, f431, f432, ?_⟩
      refine ⟨by have a1 := sel377; have b1 := h_ca; have b2 := h_cb; have b3 := h_cc; have b4 := h_cd; omega, by have a1 := sel377; have b1 := h_ca; have b2 := h_cb; have b3 := h_cc; have b4 := h_cd; omega, by have a1 := sel377; have b1 := h_ca; have b2 := h_cb; have b3 := h_cc; have b4 := h_cd; omega, by have a1 := sel377; have b1 := h_ca; have b2 := h_cb; have b3 := h_cc; have b4 := h_cd; omega, by have a1 := sel377; have b1 := h_ca; have b2 := h_cb; have b3 := h_cc; have b4 := h_cd; omega, by have a1 := sel377; have b1 := h_ca; have b2 := h_cb; have b3 := h_cc; have b4 := h_cd; omega, by have a1 := sel377; have b1 := h_ca; have b2 := h_cb; have b3 := h_cc; have b4 := h_cd; omega, by have a1 := sel377; have b1 := h_ca; have b2 := h_cb; have b3 := h_cc; have b4 := h_cd; omega, by have a1 := sel377; have b1 := h_ca; have b2 := h_cb; have b3 := h_cc; have b4 := h_cd; omega, by have a1 := sel377; have b1 := h_ca; have b2 := h_cb; have b3 := h_cc; have b4 := h_cd; omega, by have a1 := sel377; have b1 := h_ca; have b2 := h_cb; have b3 := h_cc; have b4 := h_cd; omega⟩
    · -- previous 2
      have dq : 0 ≤ g407.toInt ∧ g407.toInt ≤ 1152921504606846976 := by omega
      show Ends p.tables e below _ (T413.setTop (mkF m 191 #[.val (.ref x), .val (.int (2 : Int32)), .val (.int (2 : Int32)), .val (.int (2 : Int32)), .val (.int (1 : Int32)), .val (.ref r0), .val (.long g407), .second, .val (.int (1 : Int32)), .val (.int (3 : Int32)), sa407, sb407, sc407, sd407] []))
      refine own_iload X413 hx hby d8_191 rfl rfl ?_
      refine own_if_ge X413 hx hby d8_193 (pcY := 198) (pcN := 196) (by decide) rfl (fun (hc433 : 0 ≤ 1) => ?_) (fun (hc433 : 1 < 0) => False.elim (by exact absurd hc433 (by decide)))
      refine own_iconst X413 hx hby d8_198 rfl (0 : Int32) rfl ?_
      refine own_istore X413 hx hby d8_199 rfl #[.val (.ref x), .val (.int (2 : Int32)), .val (.int (2 : Int32)), .val (.int (2 : Int32)), .val (.int (1 : Int32)), .val (.ref r0), .val (.long g407), .second, .val (.int (1 : Int32)), .val (.int (0 : Int32)), sa407, sb407, sc407, sd407] rfl ?_
      refine upd0_2 hx hby hml hown hZ hw ord B407 Aup407 Avp407 Aho407 Apr407 Are407 Adn407 bd_U395 bd_V395 dq N407 X413 e413 (fun T434 h434 L434 U434 V434 X434 e434 N434 B434 Aup434 Avp434 Aho434 Apr434 Are434 Adn434 eu434 ev434 => ?_)
      have bd_U434 : OwnBd U434 := by have a1 := sel377; have bca := h_ca; have bcb := h_cb; have bcc := h_cc; have bcd := h_cd; omega
      have bd_V434 : OwnBd V434 := by have a1 := sel377; have bca := h_ca; have bcb := h_cb; have bcc := h_cc; have bcd := h_cd; omega
      show Ends p.tables e below _ (T434.setTop (mkF m 201 #[.val (.ref x), .val (.int (2 : Int32)), .val (.int (2 : Int32)), .val (.int (2 : Int32)), .val (.int (1 : Int32)), .val (.ref r0), .val (.long g407), .second, .val (.int (1 : Int32)), .val (.int (1 : Int32)), sa407, sb407, sc407, sd407] []))
      refine updn1 hx hby hml hown hZ hw ord B434 Aup434 Avp434 Aho434 Apr434 Are434 Adn434 (by have a1 := sel377; have bca := h_ca; have bcb := h_cb; have bcc := h_cc; have bcd := h_cd; omega) dq N434 X434 e434 (fun T435 h435 L435 Q435 X435 e435 N435 B435 Aup435 Avp435 Aho435 Apr435 Are435 Adn435 un_1 => ?_)
      show Ends p.tables e below _ (T435.setTop (mkF m 201 #[.val (.ref x), .val (.int (2 : Int32)), .val (.int (2 : Int32)), .val (.int (2 : Int32)), .val (.int (1 : Int32)), .val (.ref r0), .val (.long g407), .second, .val (.int (1 : Int32)), .val (.int (2 : Int32)), sa407, sb407, sc407, sd407] []))
      refine upd2_1 hx hby hml hown hZ hw ord B435 Aup435 Avp435 Aho435 Apr435 Are435 Adn435 bd_U1 own_b0 dq N435 X435 e435 (fun T436 h436 L436 U436 V436 X436 e436 N436 B436 Aup436 Avp436 Aho436 Apr436 Are436 Adn436 eu436 ev436 => ?_)
      have bd_U436 : OwnBd U436 := by have a1 := sel377; have bca := h_ca; have bcb := h_cb; have bcc := h_cc; have bcd := h_cd; omega
      have bd_V436 : OwnBd V436 := by have a1 := sel377; have bca := h_ca; have bcb := h_cb; have bcc := h_cc; have bcd := h_cd; omega
      show Ends p.tables e below _ (T436.setTop (mkF m 201 #[.val (.ref x), .val (.int (2 : Int32)), .val (.int (2 : Int32)), .val (.int (2 : Int32)), .val (.int (1 : Int32)), .val (.ref r0), .val (.long g407), .second, .val (.int (1 : Int32)), .val (.int (3 : Int32)), sa407, sb407, sc407, sd407] []))
      refine own_iload X436 hx hby d8_201 rfl rfl ?_
      refine own_iloadN X436 hx hby d8_203 rfl rfl ?_
      refine own_icmp_gt X436 hx hby d8_204 (pcY := 281) (pcN := 207) (by decide) rfl (fun (hc437 : 2 < 3) => ?_) (fun (hc437 : 3 ≤ 2) => False.elim (by exact absurd hc437 (by decide)))
      refine own_iload X436 hx hby d8_281 rfl rfl ?_
      refine own_istoreN X436 hx hby d8_283 rfl #[.val (.ref x), .val (.int (2 : Int32)), .val (.int (2 : Int32)), .val (.int (1 : Int32)), .val (.int (1 : Int32)), .val (.ref r0), .val (.long g407), .second, .val (.int (1 : Int32)), .val (.int (3 : Int32)), sa407, sb407, sc407, sd407] rfl ?_
      refine own_aloadN X436 hx hby d8_284 rfl rfl rfl ?_
      refine own_getfield X436 hx hby hZ hown (host := "") (Or.inl (hw _ tw_20)) Via.refl e436 (B_holder B436) d8_285 rfl (fun T438 X438 e438 => ?_)
      refine own_iloadN X438 hx hby d8_288 rfl rfl ?_
      refine own_iaload X438 hx hby hZ (0 : Int32) e438 Aho436 (by decide) rfl d8_289 rfl ?_
      refine own_if_ne X438 hx hby d8_290 (pcY := 35) (pcN := 293) (by decide) rfl (fun (hc439 : ¬ (0 : Int32) = (0 : Int32)) => False.elim (by exact absurd hc439 (by decide))) (fun (hc439 : (0 : Int32) = (0 : Int32)) => ?_)
      refine own_iloadN X438 hx hby d8_293 rfl rfl ?_
      refine own_if_eq X438 hx hby d8_294 (pcY := 324) (pcN := 297) (by decide) rfl (fun (hc440 : (1 : Int32) = (0 : Int32)) => False.elim (by exact absurd hc440 (by decide))) (fun (hc440 : ¬ (1 : Int32) = (0 : Int32)) => ?_)
      refine own_aloadN X438 hx hby d8_297 rfl rfl rfl ?_
      refine own_getfield X438 hx hby hZ hown (host := "") (Or.inl (hw _ tw_22)) Via.refl e438 (B_previous B436) d8_298 rfl (fun T441 X441 e441 => ?_)
      refine own_iloadN X441 hx hby d8_301 rfl rfl ?_
      refine own_iaload X441 hx hby hZ (2 : Int32) e441 Apr436 (by decide) rfl d8_302 rfl ?_
      refine own_istore X441 hx hby d8_303 rfl #[.val (.ref x), .val (.int (2 : Int32)), .val (.int (2 : Int32)), .val (.int (1 : Int32)), .val (.int (2 : Int32)), .val (.ref r0), .val (.long g407), .second, .val (.int (1 : Int32)), .val (.int (3 : Int32)), sa407, sb407, sc407, sd407] rfl ?_
      refine own_aloadN X441 hx hby d8_305 rfl rfl rfl ?_
      refine own_getfield X441 hx hby hZ hown (host := "") (Or.inl (hw _ tw_20)) Via.refl e441 (B_holder B436) d8_306 rfl (fun T442 X442 e442 => ?_)
      refine own_iloadN X442 hx hby d8_309 rfl rfl ?_
      refine own_aloadN X442 hx hby d8_310 rfl rfl rfl ?_
      refine own_getfield X442 hx hby hZ hown (host := "") (Or.inl (hw _ tw_20)) Via.refl e442 (B_holder B436) d8_311 rfl (fun T443 X443 e443 => ?_)
      refine own_iload X443 hx hby d8_314 rfl rfl ?_
      refine own_iaload X443 hx hby hZ (1 : Int32) e443 Aho436 (by decide) rfl d8_316 rfl ?_
      refine own_iastore X443 hx hby hZ (1 : Int32) rfl e443 Aho436 (by decide) 1 rfl (show 1 < 3 by decide) [(.int (2 : Int32)), (.int (1 : Int32)), (.int (1 : Int32))] rfl rfl N436 (ge_ho ord) d8_317 rfl (fun T444 h444 L444 X444 e444 W444 V444 N444 => ?_)
      refine own_iload X444 hx hby d8_318 rfl rfl ?_
      refine own_istoreN X444 hx hby d8_320 rfl #[.val (.ref x), .val (.int (2 : Int32)), .val (.int (2 : Int32)), .val (.int (2 : Int32)), .val (.int (2 : Int32)), .val (.ref r0), .val (.long g407), .second, .val (.int (1 : Int32)), .val (.int (3 : Int32)), sa407, sb407, sc407, sd407] rfl ?_
      refine own_goto X444 hx hby d8_321 (pc' := 293) (by decide) ?_
      refine own_iloadN X444 hx hby d8_293 rfl rfl ?_
      refine own_if_eq X444 hx hby d8_294 (pcY := 324) (pcN := 297) (by decide) rfl (fun (hc445 : (2 : Int32) = (0 : Int32)) => False.elim (by exact absurd hc445 (by decide))) (fun (hc445 : ¬ (2 : Int32) = (0 : Int32)) => ?_)
      refine own_aloadN X444 hx hby d8_297 rfl rfl rfl ?_
      have f446 := (own_Bw B436 W444 (ne_x_ho ord) (ne_cs_ho ord) (ne_r0_ho ord) (ne_r1_ho ord))
      refine own_getfield X444 hx hby hZ hown (host := "") (Or.inl (hw _ tw_22)) Via.refl e444 (B_previous f446) d8_298 rfl (fun T447 X447 e447 => ?_)
      refine own_iloadN X447 hx hby d8_301 rfl rfl ?_
      have f448 := (Apr436.other W444 (ne_pr_ho ord))
      refine own_iaload X447 hx hby hZ (0 : Int32) e447 f448 (by decide) rfl d8_302 rfl ?_
      refine own_istore X447 hx hby d8_303 rfl #[.val (.ref x), .val (.int (2 : Int32)), .val (.int (2 : Int32)), .val (.int (2 : Int32)), .val (.int (0 : Int32)), .val (.ref r0), .val (.long g407), .second, .val (.int (1 : Int32)), .val (.int (3 : Int32)), sa407, sb407, sc407, sd407] rfl ?_
      refine own_aloadN X447 hx hby d8_305 rfl rfl rfl ?_
      refine own_getfield X447 hx hby hZ hown (host := "") (Or.inl (hw _ tw_20)) Via.refl e447 (B_holder f446) d8_306 rfl (fun T449 X449 e449 => ?_)
      refine own_iloadN X449 hx hby d8_309 rfl rfl ?_
      refine own_aloadN X449 hx hby d8_310 rfl rfl rfl ?_
      refine own_getfield X449 hx hby hZ hown (host := "") (Or.inl (hw _ tw_20)) Via.refl e449 (B_holder f446) d8_311 rfl (fun T450 X450 e450 => ?_)
      refine own_iload X450 hx hby d8_314 rfl rfl ?_
      refine own_iaload X450 hx hby hZ (2 : Int32) e450 V444 (by decide) rfl d8_316 rfl ?_
      refine own_iastore X450 hx hby hZ (2 : Int32) rfl e450 V444 (by decide) 2 rfl (show 2 < 3 by decide) [(.int (2 : Int32)), (.int (1 : Int32)), (.int (2 : Int32))] rfl rfl N444 (ge_ho ord) d8_317 rfl (fun T451 h451 L451 X451 e451 W451 V451 N451 => ?_)
      refine own_iload X451 hx hby d8_318 rfl rfl ?_
      refine own_istoreN X451 hx hby d8_320 rfl #[.val (.ref x), .val (.int (2 : Int32)), .val (.int (2 : Int32)), .val (.int (0 : Int32)), .val (.int (0 : Int32)), .val (.ref r0), .val (.long g407), .second, .val (.int (1 : Int32)), .val (.int (3 : Int32)), sa407, sb407, sc407, sd407] rfl ?_
      refine own_goto X451 hx hby d8_321 (pc' := 293) (by decide) ?_
      refine own_iloadN X451 hx hby d8_293 rfl rfl ?_
      refine own_if_eq X451 hx hby d8_294 (pcY := 324) (pcN := 297) (by decide) rfl (fun (hc452 : (0 : Int32) = (0 : Int32)) => ?_) (fun (hc452 : ¬ (0 : Int32) = (0 : Int32)) => False.elim (by exact absurd hc452 (by decide)))
      refine own_iconst X451 hx hby d8_324 rfl (1 : Int32) rfl ?_
      refine own_ret X451 hx hby hret hlk d8_325 (.int (1 : Int32)) rfl (Or.inl ⟨rfl, by simp, _, rfl⟩) (by decide) (by decide) ?_
      have f453 := (own_Bw f446 W451 (ne_x_ho ord) (ne_cs_ho ord) (ne_r0_ho ord) (ne_r1_ho ord))
      have f454 := ((Aup436.other W444 (ne_up_ho ord)).other W451 (ne_up_ho ord))
      have f455 := ((Avp436.other W444 (ne_vp_ho ord)).other W451 (ne_vp_ho ord))
      rw [e451]
      refine ⟨U436, U434, V434, (0 : Int64), V436, rfl, N451, f453, f454, f455, ?_⟩
      refine ⟨by have a1 := sel377; have b1 := h_ca; have b2 := h_cb; have b3 := h_cc; have b4 := h_cd; omega, by have a1 := sel377; have b1 := h_ca; have b2 := h_cb; have b3 := h_cc; have b4 := h_cd; omega, by have a1 := sel377; have b1 := h_ca; have b2 := h_cb; have b3 := h_cc; have b4 := h_cd; omega, by have a1 := sel377; have b1 := h_ca; have b2 := h_cb; have b3 := h_cc; have b4 := h_cd; omega, by have a1 := sel377; have b1 := h_ca; have b2 := h_cb; have b3 := h_cc; have b4 := h_cd; omega, by have a1 := sel377; have b1 := h_ca; have b2 := h_cb; have b3 := h_cc; have b4 := h_cd; omega, by have a1 := sel377; have b1 := h_ca; have b2 := h_cb; have b3 := h_cc; have b4 := h_cd; omega, by have a1 := sel377; have b1 := h_ca; have b2 := h_cb; have b3 := h_cc; have b4 := h_cd; omega, by have a1 := sel377; have b1 := h_ca; have b2 := h_cb; have b3 := h_cc; have b4 := h_cd; omega, by have a1 := sel377; have b1 := h_ca; have b2 := h_cb; have b3 := h_cc; have b4 := h_cd; omega, by have a1 := sel377; have b1 := h_ca; have b2 := h_cb; have b3 := h_cc; have b4 := h_cd; omega⟩
set_option maxRecDepth 65536 in
set_option maxHeartbeats 40000000 in
theorem rmsol (l : Launch) (Z : State) (a0 : Array Value) (hw : ∀ d ∈ tables_1, d.before a0 Z = true) (x : Addr) (h0 : Heap) (n0 : Nat) {cs r0 r1 up vp ho pr re dn : Addr} {kc k0 k1 ku kv kh kp kr kd : ClassId} {ca cb cc cd : Int64} {U0 U1 U2 V0 V1 V2 Q0 Q1 Q2 : Int64} {H0 H1 H2 P0 P1 P2 D0 D1 D2 : Int32} (ord : OwnOrd n0 x cs r0 r1 up vp ho pr re dn) (B : OwnB Z h0 x cs r0 r1 up vp ho pr re dn kc k0 k1 ca cb cc cd) (Aup : Arv Z h0 up ku .long (3 : Int32) [(.long U0), (.long U1), (.long U2)] (.long 0)) (Avp : Arv Z h0 vp kv .long (3 : Int32) [(.long V0), (.long V1), (.long V2)] (.long 0)) (Aho : Arv Z h0 ho kh .int (3 : Int32) [(.int H0), (.int H1), (.int H2)] (.int 0)) (Apr : Arv Z h0 pr kp .int (3 : Int32) [(.int P0), (.int P1), (.int P2)] (.int 0)) (Are : Arv Z h0 re kr .long (3 : Int32) [(.long Q0), (.long Q1), (.long Q2)] (.long 0)) (Adn : Arv Z h0 dn kd .boolean (3 : Int32) [(.int D0), (.int D1), (.int D2)] (.int 0)) (h_ca : OwnCost ca) (h_cb : OwnCost cb) (h_cc : OwnCost cc) (h_cd : OwnCost cd) (hn_cacb : ¬ (ca.toInt = 9223372036854775807 ∧ cb.toInt = 9223372036854775807)) (hn_cccd : ¬ (cc.toInt = 9223372036854775807 ∧ cd.toInt = 9223372036854775807)) (hn_ca : ¬ (ca.toInt = 9223372036854775807 ∧ cc.toInt = 9223372036854775807)) (hn_cb : ¬ (cb.toInt = 9223372036854775807 ∧ cd.toInt = 9223372036854775807)) (hn_ad : ¬ (ca.toInt = 9223372036854775807 ∧ cd.toInt = 9223372036854775807)) (hn_bc : ¬ (cb.toInt = 9223372036854775807 ∧ cc.toInt = 9223372036854775807)) :
    OwnMet l Z (⟨"com/example/weftwork/weftwork/algorithm/Assignment", "solve", "(II)J"⟩ : MethodName) prog_3_method_3_code 4 (some .long) [] ({ frames := 3, cells := 0, slots := 0, locals := 56 } : Room) #[(.ref x), (.int (2 : Int32)), (.int (2 : Int32))] h0 (fun v h L => ∃ (Ua Ub Va Vb Vc : Int64), v = some (.long (-Va)) ∧ Fr n0 L ∧ OwnB Z h x cs r0 r1 up vp ho pr re dn kc k0 k1 ca cb cc cd ∧ Arv Z h up ku .long (3 : Int32) [(.long (0 : Int64)), (.long Ua), (.long Ub)] (.long 0) ∧ Arv Z h vp kv .long (3 : Int32) [(.long Va), (.long Vb), (.long Vc)] (.long 0) ∧ OwnDual ca cb cc cd Ua Ub Va Vb Vc) := by
  refine own_body (plainFor_of_name pn_1) (fun m => ef_sol m x) ?_
  intro p e s m below meth c s₁ X0 hx hby hml hown hnm hret hlk hZ e0
  replace hown : s.vm.findClass "com/example/weftwork/weftwork/algorithm/Assignment" = some m.cls := hown
  replace hml : c.maxLocals = 4 := hml
  have N0 := Fr.nil n0
  show Ends p.tables e below _ (s₁.setTop (mkF m 0 #[.val (.ref x), .val (.int (2 : Int32)), .val (.int (2 : Int32)), .unset] []))
  show Ends p.tables e below _ (s₁.setTop (mkF m 0 #[.val (.ref x), .val (.int (2 : Int32)), .val (.int (2 : Int32)), .unset] []))
  refine own_iloadN X0 hx hby d4_0 rfl rfl ?_
  refine own_iloadN X0 hx hby d4_1 rfl rfl ?_
  refine own_icmp_le X0 hx hby d4_2 (pcY := 9) (pcN := 5) (by decide) rfl (fun (hc456 : 2 ≤ 2) => ?_) (fun (hc456 : 2 < 2) => False.elim (by exact absurd hc456 (by decide)))
  refine own_aloadN X0 hx hby d4_9 rfl rfl rfl ?_
  refine own_getfield X0 hx hby hZ hown (host := "") (Or.inl (hw _ tw_15)) Via.refl e0 (B_rowPotential B) d4_10 rfl (fun T457 X457 e457 => ?_)
  refine own_iconst X457 hx hby d4_13 rfl (0 : Int32) rfl ?_
  refine own_iloadN X457 hx hby d4_14 rfl rfl ?_
  refine own_iconst X457 hx hby d4_15 rfl (1 : Int32) rfl ?_
  refine own_iadd X457 hx hby d4_16 rfl ?_
  show Ends p.tables e below _ (T457.setTop (mkF m 17 #[.val (.ref x), .val (.int (2 : Int32)), .val (.int (2 : Int32)), .unset] [(.int (3 : Int32)), (.int (0 : Int32)), (.ref up)]))
  refine own_lconst X457 hx hby d4_17 rfl (0 : Int64) rfl ?_
  refine own_static X457 hx hby hZ (argsL := [(.ref up), (.int (0 : Int32)), (.int (3 : Int32)), (.long (0 : Int64))]) (rest := []) hown (hw _ tw_39) (hw _ tw_40) (hw _ tw_41) (hw _ tw_42) (by decide) (rm5 l Z a0 hw up (0 : Int64) h0 n0 (ge_up ord) Aup) e457 (by rw [hml]; rfl) pd_1 rfl (by decide) (W := 0) (Nat.le_refl _) (by decide) (by decide) (by decide) d4_18 rfl rfl (fun v458 T458 L458 X458 hQ458 => ?_)
  obtain ⟨rfl, N458q, K458, V458⟩ := hQ458
  show Ends p.tables e below _ (T458.setTop (mkF m 21 #[.val (.ref x), .val (.int (2 : Int32)), .val (.int (2 : Int32)), .unset] []))
  refine own_aloadN X458 hx hby d4_21 rfl rfl rfl ?_
  have f459 := (own_Bk B K458 (ne_x_up ord) (ne_cs_up ord) (ne_r0_up ord) (ne_r1_up ord))
  refine own_getfield X458 hx hby hZ hown (host := "") (Or.inl (hw _ tw_17)) Via.refl rfl (B_columnPotential f459) d4_22 rfl (fun T460 X460 e460 => ?_)
  refine own_iconst X460 hx hby d4_25 rfl (0 : Int32) rfl ?_
  refine own_iloadN X460 hx hby d4_26 rfl rfl ?_
  refine own_iconst X460 hx hby d4_27 rfl (1 : Int32) rfl ?_
  refine own_iadd X460 hx hby d4_28 rfl ?_
  show Ends p.tables e below _ (T460.setTop (mkF m 29 #[.val (.ref x), .val (.int (2 : Int32)), .val (.int (2 : Int32)), .unset] [(.int (3 : Int32)), (.int (0 : Int32)), (.ref vp)]))
  refine own_lconst X460 hx hby d4_29 rfl (0 : Int64) rfl ?_
  have f462 := (Avp.keep K458 (ninS (ne_vp_up ord) nin0))
  refine own_static X460 hx hby hZ (argsL := [(.ref vp), (.int (0 : Int32)), (.int (3 : Int32)), (.long (0 : Int64))]) (rest := []) hown (hw _ tw_39) (hw _ tw_40) (hw _ tw_41) (hw _ tw_42) (by decide) (rm5 l Z a0 hw vp (0 : Int64) T458.heap n0 (ge_vp ord) f462) e460 (by rw [hml]; rfl) pd_1 rfl (by decide) (W := 0) (Nat.le_refl _) (by decide) (by decide) (by decide) d4_30 rfl rfl (fun v461 T461 L461 X461 hQ461 => ?_)
  obtain ⟨rfl, N461q, K461, V461⟩ := hQ461
  show Ends p.tables e below _ (T461.setTop (mkF m 33 #[.val (.ref x), .val (.int (2 : Int32)), .val (.int (2 : Int32)), .unset] []))
  refine own_aloadN X461 hx hby d4_33 rfl rfl rfl ?_
  have f463 := (own_Bk f459 K461 (ne_x_vp ord) (ne_cs_vp ord) (ne_r0_vp ord) (ne_r1_vp ord))
  refine own_getfield X461 hx hby hZ hown (host := "") (Or.inl (hw _ tw_20)) Via.refl rfl (B_holder f463) d4_34 rfl (fun T464 X464 e464 => ?_)
  refine own_iconst X464 hx hby d4_37 rfl (0 : Int32) rfl ?_
  refine own_iloadN X464 hx hby d4_38 rfl rfl ?_
  refine own_iconst X464 hx hby d4_39 rfl (1 : Int32) rfl ?_
  refine own_iadd X464 hx hby d4_40 rfl ?_
  show Ends p.tables e below _ (T464.setTop (mkF m 41 #[.val (.ref x), .val (.int (2 : Int32)), .val (.int (2 : Int32)), .unset] [(.int (3 : Int32)), (.int (0 : Int32)), (.ref ho)]))
  refine own_iconst X464 hx hby d4_41 rfl (0 : Int32) rfl ?_
  have f466 := ((Aho.keep K458 (ninS (ne_ho_up ord) nin0)).keep K461 (ninS (ne_ho_vp ord) nin0))
  refine own_static X464 hx hby hZ (argsL := [(.ref ho), (.int (0 : Int32)), (.int (3 : Int32)), (.int (0 : Int32))]) (rest := []) hown (hw _ tw_46) (hw _ tw_47) (hw _ tw_41) (hw _ tw_48) (by decide) (rm7 l Z a0 hw ho T461.heap n0 (ge_ho ord) f466) e464 (by rw [hml]; rfl) pd_3 rfl (by decide) (W := 0) (Nat.le_refl _) (by decide) (by decide) (by decide) d4_42 rfl rfl (fun v465 T465 L465 X465 hQ465 => ?_)
  obtain ⟨rfl, N465q, K465, V465⟩ := hQ465
  show Ends p.tables e below _ (T465.setTop (mkF m 45 #[.val (.ref x), .val (.int (2 : Int32)), .val (.int (2 : Int32)), .unset] []))
  refine own_iconst X465 hx hby d4_45 rfl (1 : Int32) rfl ?_
  refine own_istoreN X465 hx hby d4_46 rfl #[.val (.ref x), .val (.int (2 : Int32)), .val (.int (2 : Int32)), .val (.int (1 : Int32))] rfl ?_
  refine own_iloadN X465 hx hby d4_47 rfl rfl ?_
  refine own_iloadN X465 hx hby d4_48 rfl rfl ?_
  refine own_icmp_gt X465 hx hby d4_49 (pcY := 71) (pcN := 52) (by decide) rfl (fun (hc467 : 2 < 1) => False.elim (by exact absurd hc467 (by decide))) (fun (hc467 : 1 ≤ 2) => ?_)
  refine own_aloadN X465 hx hby d4_52 rfl rfl rfl ?_
  refine own_iloadN X465 hx hby d4_53 rfl rfl ?_
  refine own_iloadN X465 hx hby d4_54 rfl rfl ?_
  have f469 := (own_Bk f463 K465 (ne_x_ho ord) (ne_cs_ho ord) (ne_r0_ho ord) (ne_r1_ho ord))
  have f470 := ((V458.keep K461 (ninS (ne_up_vp ord) nin0)).keep K465 (ninS (ne_up_ho ord) nin0))
  have f471 := (V461.keep K465 (ninS (ne_vp_ho ord) nin0))
  have f472 := (((Apr.keep K458 (ninS (ne_pr_up ord) nin0)).keep K461 (ninS (ne_pr_vp ord) nin0)).keep K465 (ninS (ne_pr_ho ord) nin0))
  have f473 := (((Are.keep K458 (ninS (ne_re_up ord) nin0)).keep K461 (ninS (ne_re_vp ord) nin0)).keep K465 (ninS (ne_re_ho ord) nin0))
  have f474 := (((Adn.keep K458 (ninS (ne_dn_up ord) nin0)).keep K461 (ninS (ne_dn_vp ord) nin0)).keep K465 (ninS (ne_dn_ho ord) nin0))
  refine own_private X465 hx hby hZ (Ce := "com/example/weftwork/weftwork/algorithm/Assignment") (a := x) (argsL := [(.int (1 : Int32)), (.int (2 : Int32))]) (rest := []) hown (hw _ tw_49) (hw _ tw_2) (hw _ tw_51) (hw _ tw_50) (hw _ tw_3) (hw _ tw_52) (by decide) (rmaug1 l Z a0 hw x T465.heap n0 ord f469 f470 f471 V465 f472 f473 f474 h_ca h_cb h_cc h_cd hn_cacb hn_cccd) (B_E f469) rfl (by rw [hml]; rfl) pd_4 rfl (by decide) (W := 0) (Nat.le_refl _) (by decide) (by decide) (by decide) d4_55 rfl rfl (fun v468 T468 L468 X468 hQ468 => ?_)
  rcases hQ468 with ⟨U1, V0, H1, H2, P0, P1, P2, Q0, Q1, Q2, D0, D1, D2, rfl, N468q, B1, Cup, Cvp, Cho, Cpr, Cre, Cdn, hU, hV, (⟨rfl, rfl, hj1, hj2, hj3⟩ | ⟨rfl, rfl, hj1, hj2, hj3⟩)⟩
  · -- holder 1
    show Ends p.tables e below _ (T468.setTop (mkF m 58 #[.val (.ref x), .val (.int (2 : Int32)), .val (.int (2 : Int32)), .val (.int (1 : Int32))] [(.int (1 : Int32))]))
    refine own_if_ne X468 hx hby d4_58 (pcY := 65) (pcN := 61) (by decide) rfl (fun (hc475 : ¬ (1 : Int32) = (0 : Int32)) => ?_) (fun (hc475 : (1 : Int32) = (0 : Int32)) => False.elim (by exact absurd hc475 (by decide)))
    refine own_iinc X468 hx hby d4_65 rfl (1 : Int32) rfl #[.val (.ref x), .val (.int (2 : Int32)), .val (.int (2 : Int32)), .val (.int (2 : Int32))] rfl rfl ?_
    refine own_goto X468 hx hby d4_68 (pc' := 47) (by decide) ?_
    refine own_iloadN X468 hx hby d4_47 rfl rfl ?_
    refine own_iloadN X468 hx hby d4_48 rfl rfl ?_
    refine own_icmp_gt X468 hx hby d4_49 (pcY := 71) (pcN := 52) (by decide) rfl (fun (hc476 : 2 < 2) => False.elim (by exact absurd hc476 (by decide))) (fun (hc476 : 2 ≤ 2) => ?_)
    refine own_aloadN X468 hx hby d4_52 rfl rfl rfl ?_
    refine own_iloadN X468 hx hby d4_53 rfl rfl ?_
    refine own_iloadN X468 hx hby d4_54 rfl rfl ?_
    refine own_private X468 hx hby hZ (Ce := "com/example/weftwork/weftwork/algorithm/Assignment") (a := x) (argsL := [(.int (2 : Int32)), (.int (2 : Int32))]) (rest := []) hown (hw _ tw_49) (hw _ tw_2) (hw _ tw_51) (hw _ tw_50) (hw _ tw_3) (hw _ tw_52) (by decide) (rmaug2_1 l Z a0 hw x T468.heap n0 ord B1 Cup Cvp Cho Cpr Cre Cdn h_ca h_cb h_cc h_cd hn_cacb hn_cccd hn_ca hn_cb hn_ad hn_bc hU hV hj1 hj2 hj3) (B_E B1) rfl (by rw [hml]; rfl) pd_4 rfl (by decide) (W := 0) (Nat.le_refl _) (by decide) (by decide) (by decide) d4_55 rfl rfl (fun v477 T477 L477 X477 hQ477 => ?_)
    obtain ⟨Ua, Ub, Va, Vb, Vc, rfl, N477q, Bq, Uq, Vq, dual⟩ := hQ477
    show Ends p.tables e below _ (T477.setTop (mkF m 58 #[.val (.ref x), .val (.int (2 : Int32)), .val (.int (2 : Int32)), .val (.int (2 : Int32))] [(.int (1 : Int32))]))
    refine own_if_ne X477 hx hby d4_58 (pcY := 65) (pcN := 61) (by decide) rfl (fun (hc478 : ¬ (1 : Int32) = (0 : Int32)) => ?_) (fun (hc478 : (1 : Int32) = (0 : Int32)) => False.elim (by exact absurd hc478 (by decide)))
    refine own_iinc X477 hx hby d4_65 rfl (1 : Int32) rfl #[.val (.ref x), .val (.int (2 : Int32)), .val (.int (2 : Int32)), .val (.int (3 : Int32))] rfl rfl ?_
    refine own_goto X477 hx hby d4_68 (pc' := 47) (by decide) ?_
    refine own_iloadN X477 hx hby d4_47 rfl rfl ?_
    refine own_iloadN X477 hx hby d4_48 rfl rfl ?_
    refine own_icmp_gt X477 hx hby d4_49 (pcY := 71) (pcN := 52) (by decide) rfl (fun (hc479 : 2 < 3) => ?_) (fun (hc479 : 3 ≤ 2) => False.elim (by exact absurd hc479 (by decide)))
    refine own_aloadN X477 hx hby d4_71 rfl rfl rfl ?_
    refine own_getfield X477 hx hby hZ hown (host := "") (Or.inl (hw _ tw_17)) Via.refl rfl (B_columnPotential Bq) d4_72 rfl (fun T480 X480 e480 => ?_)
    refine own_iconst X480 hx hby d4_75 rfl (0 : Int32) rfl ?_
    refine own_laload X480 hx hby hZ Va e480 Vq (by decide) rfl d4_76 rfl ?_
    refine own_lneg X480 hx hby d4_77 rfl ?_
    refine own_ret X480 hx hby hret hlk d4_78 (.long (-Va)) rfl (Or.inr (Or.inl ⟨rfl, rfl, _, rfl⟩)) (by decide) (by decide) ?_
    rw [e480]
    exact ⟨Ua, Ub, Va, Vb, Vc, rfl, (Fr.app (Fr.app (Fr.app (Fr.app (Fr.app N0 N458q) N461q) N465q) N468q) N477q), Bq, Uq, Vq, dual⟩
  · -- holder 2
    show Ends p.tables e below _ (T468.setTop (mkF m 58 #[.val (.ref x), .val (.int (2 : Int32)), .val (.int (2 : Int32)), .val (.int (1 : Int32))] [(.int (1 : Int32))]))
    refine own_if_ne X468 hx hby d4_58 (pcY := 65) (pcN := 61) (by decide) rfl (fun (hc481 : ¬ (1 : Int32) = (0 : Int32)) => ?_) (fun (hc481 : (1 : Int32) = (0 : Int32)) => False.elim (by exact absurd hc481 (by decide)))
    refine own_iinc X468 hx hby d4_65 rfl (1 : Int32) rfl #[.val (.ref x), .val (.int (2 : Int32)), .val (.int (2 : Int32)), .val (.int (2 : Int32))] rfl rfl ?_
    refine own_goto X468 hx hby d4_68 (pc' := 47) (by decide) ?_
    refine own_iloadN X468 hx hby d4_47 rfl rfl ?_
    refine own_iloadN X468 hx hby d4_48 rfl rfl ?_
    refine own_icmp_gt X468 hx hby d4_49 (pcY := 71) (pcN := 52) (by decide) rfl (fun (hc482 : 2 < 2) => False.elim (by exact absurd hc482 (by decide))) (fun (hc482 : 2 ≤ 2) => ?_)
    refine own_aloadN X468 hx hby d4_52 rfl rfl rfl ?_
    refine own_iloadN X468 hx hby d4_53 rfl rfl ?_
    refine own_iloadN X468 hx hby d4_54 rfl rfl ?_
    refine own_private X468 hx hby hZ (Ce := "com/example/weftwork/weftwork/algorithm/Assignment") (a := x) (argsL := [(.int (2 : Int32)), (.int (2 : Int32))]) (rest := []) hown (hw _ tw_49) (hw _ tw_2) (hw _ tw_51) (hw _ tw_50) (hw _ tw_3) (hw _ tw_52) (by decide) (rmaug2_2 l Z a0 hw x T468.heap n0 ord B1 Cup Cvp Cho Cpr Cre Cdn h_ca h_cb h_cc h_cd hn_cacb hn_cccd hn_ca hn_cb hn_ad hn_bc hU hV hj1 hj2 hj3) (B_E B1) rfl (by rw [hml]; rfl) pd_4 rfl (by decide) (W := 0) (Nat.le_refl _) (by decide) (by decide) (by decide) d4_55 rfl rfl (fun v483 T483 L483 X483 hQ483 => ?_)
    obtain ⟨Ua, Ub, Va, Vb, Vc, rfl, N483q, Bq, Uq, Vq, dual⟩ := hQ483
    show Ends p.tables e below _ (T483.setTop (mkF m 58 #[.val (.ref x), .val (.int (2 : Int32)), .val (.int (2 : Int32)), .val (.int (2 : Int32))] [(.int (1 : Int32))]))
    refine own_if_ne X483 hx hby d4_58 (pcY := 65) (pcN := 61) (by decide) rfl (fun (hc484 : ¬ (1 : Int32) = (0 : Int32)) => ?_) (fun (hc484 : (1 : Int32) = (0 : Int32)) => False.elim (by exact absurd hc484 (by decide)))
    refine own_iinc X483 hx hby d4_65 rfl (1 : Int32) rfl #[.val (.ref x), .val (.int (2 : Int32)), .val (.int (2 : Int32)), .val (.int (3 : Int32))] rfl rfl ?_
    refine own_goto X483 hx hby d4_68 (pc' := 47) (by decide) ?_
    refine own_iloadN X483 hx hby d4_47 rfl rfl ?_
    refine own_iloadN X483 hx hby d4_48 rfl rfl ?_
    refine own_icmp_gt X483 hx hby d4_49 (pcY := 71) (pcN := 52) (by decide) rfl (fun (hc485 : 2 < 3) => ?_) (fun (hc485 : 3 ≤ 2) => False.elim (by exact absurd hc485 (by decide)))
    refine own_aloadN X483 hx hby d4_71 rfl rfl rfl ?_
    refine own_getfield X483 hx hby hZ hown (host := "") (Or.inl (hw _ tw_17)) Via.refl rfl (B_columnPotential Bq) d4_72 rfl (fun T486 X486 e486 => ?_)
    refine own_iconst X486 hx hby d4_75 rfl (0 : Int32) rfl ?_
    refine own_laload X486 hx hby hZ Va e486 Vq (by decide) rfl d4_76 rfl ?_
    refine own_lneg X486 hx hby d4_77 rfl ?_
    refine own_ret X486 hx hby hret hlk d4_78 (.long (-Va)) rfl (Or.inr (Or.inl ⟨rfl, rfl, _, rfl⟩)) (by decide) (by decide) ?_
    rw [e486]
    exact ⟨Ua, Ub, Va, Vb, Vc, rfl, (Fr.app (Fr.app (Fr.app (Fr.app (Fr.app N0 N458q) N461q) N465q) N468q) N483q), Bq, Uq, Vq, dual⟩
set_option maxRecDepth 65536 in
set_option maxHeartbeats 40000000 in
theorem rm1 (l : Launch) (Z : State) (a0 : Array Value) (hw : ∀ d ∈ tables_1, d.before a0 Z = true) (x0 : Addr) (h0 : Heap) (n0 : Nat) (O : Old Z n0 h0) (gx : n0 ≤ x0) (E : Exa Z h0 x0 "com/example/weftwork/weftwork/algorithm/Assignment") (F_costs : Fld Z h0 x0 "com/example/weftwork/weftwork/algorithm/Assignment" "costs" "[[J" .null) (F_rowPotential : Fld Z h0 x0 "com/example/weftwork/weftwork/algorithm/Assignment" "rowPotential" "[J" .null) (F_columnPotential : Fld Z h0 x0 "com/example/weftwork/weftwork/algorithm/Assignment" "columnPotential" "[J" .null) (F_holder : Fld Z h0 x0 "com/example/weftwork/weftwork/algorithm/Assignment" "holder" "[I" .null) (F_previous : Fld Z h0 x0 "com/example/weftwork/weftwork/algorithm/Assignment" "previous" "[I" .null) (F_reach : Fld Z h0 x0 "com/example/weftwork/weftwork/algorithm/Assignment" "reach" "[J" .null) (F_done : Fld Z h0 x0 "com/example/weftwork/weftwork/algorithm/Assignment" "done" "[Z" .null) :
    OwnMet l Z (⟨"com/example/weftwork/weftwork/algorithm/Assignment", "<init>", "(II)V"⟩ : MethodName) prog_3_method_1_code 3 none [] ({ frames := 1, cells := 9, slots := 24, locals := 12 } : Room) #[(.ref x0), (.int (2 : Int32)), (.int (2 : Int32))] h0 (fun v h L => ∃ (cs r0 r1 up vp ho pr re dn : Addr) (kc k0 k1 ku kv kh kp kr kd : ClassId), v = none ∧ Fr n0 L ∧ Keep h0 h [x0] ∧ OwnOrd n0 x0 cs r0 r1 up vp ho pr re dn ∧ OwnB Z h x0 cs r0 r1 up vp ho pr re dn kc k0 k1 0 0 0 0 ∧ Arv Z h up ku .long (3 : Int32) [(.long 0), (.long 0), (.long 0)] (.long 0) ∧ Arv Z h vp kv .long (3 : Int32) [(.long 0), (.long 0), (.long 0)] (.long 0) ∧ Arv Z h ho kh .int (3 : Int32) [(.int 0), (.int 0), (.int 0)] (.int 0) ∧ Arv Z h pr kp .int (3 : Int32) [(.int 0), (.int 0), (.int 0)] (.int 0) ∧ Arv Z h re kr .long (3 : Int32) [(.long 0), (.long 0), (.long 0)] (.long 0) ∧ Arv Z h dn kd .boolean (3 : Int32) [(.int 0), (.int 0), (.int 0)] (.int 0)) := by
  refine own_body (plainFor_of_name pn_1) (fun m => ef_1 m x0) ?_
  intro p e s m below meth c s₁ X0 hx hby hml hown hnm hret hlk hZ e0
  replace hown : s.vm.findClass "com/example/weftwork/weftwork/algorithm/Assignment" = some m.cls := hown
  replace hml : c.maxLocals = 3 := hml
  have N0 := Fr.nil n0
  show Ends p.tables e below _ (s₁.setTop (mkF m 0 #[.val (.ref x0), .val (.int (2 : Int32)), .val (.int (2 : Int32))] []))
  refine own_aloadN X0 hx hby d1_0 rfl rfl rfl ?_
  refine own_initO X0 hx hby hZ hown (hw _ tw_7) (hw _ tw_8) (hw _ tw_9) e0 (by rw [hml]; rfl) (by decide) (W := 0) (Nat.le_refl _) (by decide) d1_1 rfl (fun T487 X487 e487 => ?_)
  refine own_aloadN X487 hx hby d1_4 rfl rfl rfl ?_
  refine own_iloadN X487 hx hby d1_5 rfl rfl ?_
  refine own_iloadN X487 hx hby d1_6 rfl rfl ?_
  refine own_grid X487 hx hby hZ (Cn := "[J") (ad := "[[J") (ty := .long) hown (by decide) (by decide) (hw _ tw_10) (hw _ tw_11) (hw _ tw_12) e487 (by decide) (by decide) 2 (by decide) 2 (by decide) (by decide) (by decide) rfl rfl (by decide) (by decide) d1_7 rfl (fun T488 h488 b488 k488 c488 X488 e488 g488 E488 V488 A488 => ?_)
  have lt_x0_b488 : @LT.lt Nat instLTNat x0 b488 := own_ltt E.lt g488
  have ge_b488 : n0 ≤ b488 := own_ge O g488
  have sz_b488 : h0.size ≤ b488 := Nat.le_trans (Keep.refl h0 [x0]).1 (Nat.le_of_eq g488.symm)
  have ne_x0_b488 : x0 ≠ b488 := own_lt E.lt g488
  obtain ⟨b488r0, qb488r0⟩ : ∃ r : Nat, r = b488 + 1 + 0 := ⟨_, rfl⟩
  have Vb488r0 : Arv Z h488 b488r0 c488 .long (2 : Int32) [(.long 0), (.long 0)] (.long 0) := by rw [qb488r0]; exact (Arv.new (A488 0 (by decide)) (by decide)).pad (pad_rep [] _ 2)
  have ge_b488r0 : n0 ≤ b488r0 := by have := ge_b488; omega
  have lt_b488_b488r0 : @LT.lt Nat instLTNat b488 b488r0 := by omega
  have lt_x0_b488r0 : @LT.lt Nat instLTNat x0 b488r0 := by have := lt_x0_b488; omega
  obtain ⟨b488r1, qb488r1⟩ : ∃ r : Nat, r = b488 + 1 + 1 := ⟨_, rfl⟩
  have Vb488r1 : Arv Z h488 b488r1 c488 .long (2 : Int32) [(.long 0), (.long 0)] (.long 0) := by rw [qb488r1]; exact (Arv.new (A488 1 (by decide)) (by decide)).pad (pad_rep [] _ 2)
  have ge_b488r1 : n0 ≤ b488r1 := by have := ge_b488; omega
  have lt_x0_b488r1 : @LT.lt Nat instLTNat x0 b488r1 := by have := lt_x0_b488; omega
  have lt_b488r0_b488r1 : @LT.lt Nat instLTNat b488r0 b488r1 := by omega
  have lt_b488_b488r1 : @LT.lt Nat instLTNat b488 b488r1 := by omega
  have V488c : Arv Z h488 b488 k488 (.array .long) (2 : Int32) [.ref b488r0, .ref b488r1] .null := by rw [qb488r0, qb488r1]; exact V488
  have lt_b488r0_b488r1 : @LT.lt Nat instLTNat b488r0 b488r1 := by omega
  have sz_b488r0 : h0.size ≤ b488r0 := by have := sz_b488; omega
  have sz_b488r1 : h0.size ≤ b488r1 := by have := sz_b488; omega
  have f489 := (E.ext E488)
  have f490 := (F_costs.ext E488)
  refine own_putfield X488 hx hby hZ hown (host := "") (Or.inl (hw _ tw_13)) Via.refl e488 f490 f489 (Or.inr ⟨(hw _ tw_14), rfl, hnm⟩) (hw _ tw_2) (ty := (.array (.array .long))) (by decide) rfl rfl N0 gx  d1_11 rfl (fun T491 h491 L491 X491 e491 W491 N491 => ?_)
  have F491 := f490.same W491
  refine own_aloadN X491 hx hby d1_14 rfl rfl rfl ?_
  refine own_iloadN X491 hx hby d1_15 rfl rfl ?_
  refine own_iconst X491 hx hby d1_16 rfl (1 : Int32) rfl ?_
  refine own_iadd X491 hx hby d1_17 rfl ?_
  show Ends p.tables e below _ (T491.setTop (mkF m 18 #[.val (.ref x0), .val (.int (2 : Int32)), .val (.int (2 : Int32))] [(.int (3 : Int32)), (.ref x0)]))
  have f493 := ((O.ext E488).wr W491 gx)
  refine own_newarray X491 hx hby hZ (aty := .long) (hw _ tw_12) e491 (by decide) 3 (by decide) (by decide) (by decide) (by decide) .long rfl [(.long (0 : Int64)), (.long (0 : Int64)), (.long (0 : Int64))] rfl d1_18 rfl (fun T492 h492 b492 k492 X492 e492 g492 E492 V492 => ?_)
  have lt_x0_b492 : @LT.lt Nat instLTNat x0 b492 := own_ltt F491.lt g492
  have f494 := (Vb488r0.other W491 (Ne.symm (Nat.ne_of_lt lt_x0_b488r0)))
  have lt_b488r0_b492 : @LT.lt Nat instLTNat b488r0 b492 := own_ltt f494.lt g492
  have f495 := (V488c.other W491 (Ne.symm ne_x0_b488))
  have lt_b488_b492 : @LT.lt Nat instLTNat b488 b492 := own_ltt f495.lt g492
  have f496 := (Vb488r1.other W491 (Ne.symm (Nat.ne_of_lt lt_x0_b488r1)))
  have lt_b488r1_b492 : @LT.lt Nat instLTNat b488r1 b492 := own_ltt f496.lt g492
  have ge_b492 : n0 ≤ b492 := own_ge f493 g492
  have f497 := (((Keep.refl h0 [x0]).ext E488).wr W491 (Or.inl (by simp)))
  have sz_b492 : h0.size ≤ b492 := Nat.le_trans f497.1 (Nat.le_of_eq g492.symm)
  have ne_x0_b492 : x0 ≠ b492 := own_lt F491.lt g492
  have ne_b488r0_b492 : b488r0 ≠ b492 := own_lt f494.lt g492
  have ne_b488_b492 : b488 ≠ b492 := own_lt f495.lt g492
  have ne_b488r1_b492 : b488r1 ≠ b492 := own_lt f496.lt g492
  have f498 := ((f489.wr W491).ext E492)
  have f499 := (((F_rowPotential.ext E488).other W491 (Or.inr (slot_ne (Or.inr (hw _ tw_16)) (Or.inr (hw _ tw_14)) (by decide) (t := (.array .long)) (t' := (.array (.array .long))) (by decide) (by decide)))).ext E492)
  refine own_putfield X492 hx hby hZ hown (host := "") (Or.inl (hw _ tw_15)) Via.refl e492 f499 f498 (Or.inr ⟨(hw _ tw_16), rfl, hnm⟩) (hw _ tw_2) (ty := (.array .long)) (by decide) rfl rfl N491 gx  d1_20 rfl (fun T500 h500 L500 X500 e500 W500 N500 => ?_)
  have F500 := f499.same W500
  refine own_aloadN X500 hx hby d1_23 rfl rfl rfl ?_
  refine own_iloadN X500 hx hby d1_24 rfl rfl ?_
  refine own_iconst X500 hx hby d1_25 rfl (1 : Int32) rfl ?_
  refine own_iadd X500 hx hby d1_26 rfl ?_
  show Ends p.tables e below _ (T500.setTop (mkF m 27 #[.val (.ref x0), .val (.int (2 : Int32)), .val (.int (2 : Int32))] [(.int (3 : Int32)), (.ref x0)]))
  have f502 := ((f493.ext E492).wr W500 gx)
  refine own_newarray X500 hx hby hZ (aty := .long) (hw _ tw_12) e500 (by decide) 3 (by decide) (by decide) (by decide) (by decide) .long rfl [(.long (0 : Int64)), (.long (0 : Int64)), (.long (0 : Int64))] rfl d1_27 rfl (fun T501 h501 b501 k501 X501 e501 g501 E501 V501 => ?_)
  have lt_x0_b501 : @LT.lt Nat instLTNat x0 b501 := own_ltt F500.lt g501
  have f503 := (V492.other W500 (Ne.symm ne_x0_b492))
  have lt_b492_b501 : @LT.lt Nat instLTNat b492 b501 := own_ltt f503.lt g501
  have f504 := ((f494.ext E492).other W500 (Ne.symm (Nat.ne_of_lt lt_x0_b488r0)))
  have lt_b488r0_b501 : @LT.lt Nat instLTNat b488r0 b501 := own_ltt f504.lt g501
  have f505 := ((f495.ext E492).other W500 (Ne.symm ne_x0_b488))
  have lt_b488_b501 : @LT.lt Nat instLTNat b488 b501 := own_ltt f505.lt g501
  have f506 := ((f496.ext E492).other W500 (Ne.symm (Nat.ne_of_lt lt_x0_b488r1)))
  have lt_b488r1_b501 : @LT.lt Nat instLTNat b488r1 b501 := own_ltt f506.lt g501
  have ge_b501 : n0 ≤ b501 := own_ge f502 g501
  have f507 := ((f497.ext E492).wr W500 (Or.inl (by simp)))
  have sz_b501 : h0.size ≤ b501 := Nat.le_trans f507.1 (Nat.le_of_eq g501.symm)
  have ne_x0_b501 : x0 ≠ b501 := own_lt F500.lt g501
  have ne_b488r0_b501 : b488r0 ≠ b501 := own_lt f504.lt g501
  have ne_b488_b501 : b488 ≠ b501 := own_lt f505.lt g501
  have ne_b488r1_b501 : b488r1 ≠ b501 := own_lt f506.lt g501
  have ne_b492_b501 : b492 ≠ b501 := own_lt f503.lt g501
  have f508 := ((f498.wr W500).ext E501)
  have f509 := (((((F_columnPotential.ext E488).other W491 (Or.inr (slot_ne (Or.inr (hw _ tw_18)) (Or.inr (hw _ tw_14)) (by decide) (t := (.array .long)) (t' := (.array (.array .long))) (by decide) (by decide)))).ext E492).other W500 (Or.inr (slot_ne (Or.inr (hw _ tw_18)) (Or.inr (hw _ tw_16)) (by decide) (t := (.array .long)) (t' := (.array .long)) (by decide) (by decide)))).ext E501)
  refine own_putfield X501 hx hby hZ hown (host := "") (Or.inl (hw _ tw_17)) Via.refl e501 f509 f508 (Or.inr ⟨(hw _ tw_18), rfl, hnm⟩) (hw _ tw_2) (ty := (.array .long)) (by decide) rfl rfl N500 gx  d1_29 rfl (fun T510 h510 L510 X510 e510 W510 N510 => ?_)
  have F510 := f509.same W510
  refine own_aloadN X510 hx hby d1_32 rfl rfl rfl ?_
  refine own_iloadN X510 hx hby d1_33 rfl rfl ?_
  refine own_iconst X510 hx hby d1_34 rfl (1 : Int32) rfl ?_
  refine own_iadd X510 hx hby d1_35 rfl ?_
  show Ends p.tables e below _ (T510.setTop (mkF m 36 #[.val (.ref x0), .val (.int (2 : Int32)), .val (.int (2 : Int32))] [(.int (3 : Int32)), (.ref x0)]))
  have f512 := ((f502.ext E501).wr W510 gx)
  refine own_newarray X510 hx hby hZ (aty := .int) (hw _ tw_19) e510 (by decide) 3 (by decide) (by decide) (by decide) (by decide) .int rfl [(.int (0 : Int32)), (.int (0 : Int32)), (.int (0 : Int32))] rfl d1_36 rfl (fun T511 h511 b511 k511 X511 e511 g511 E511 V511 => ?_)
  have lt_x0_b511 : @LT.lt Nat instLTNat x0 b511 := own_ltt F510.lt g511
  have f513 := (V501.other W510 (Ne.symm ne_x0_b501))
  have lt_b501_b511 : @LT.lt Nat instLTNat b501 b511 := own_ltt f513.lt g511
  have f514 := ((f504.ext E501).other W510 (Ne.symm (Nat.ne_of_lt lt_x0_b488r0)))
  have lt_b488r0_b511 : @LT.lt Nat instLTNat b488r0 b511 := own_ltt f514.lt g511
  have f515 := ((f505.ext E501).other W510 (Ne.symm ne_x0_b488))
  have lt_b488_b511 : @LT.lt Nat instLTNat b488 b511 := own_ltt f515.lt g511
  have f516 := ((f506.ext E501).other W510 (Ne.symm (Nat.ne_of_lt lt_x0_b488r1)))
  have lt_b488r1_b511 : @LT.lt Nat instLTNat b488r1 b511 := own_ltt f516.lt g511
  have f517 := ((f503.ext E501).other W510 (Ne.symm ne_x0_b492))
  have lt_b492_b511 : @LT.lt Nat instLTNat b492 b511 := own_ltt f517.lt g511
  have ge_b511 : n0 ≤ b511 := own_ge f512 g511
  have f518 := ((f507.ext E501).wr W510 (Or.inl (by simp)))
  have sz_b511 : h0.size ≤ b511 := Nat.le_trans f518.1 (Nat.le_of_eq g511.symm)
  have ne_x0_b511 : x0 ≠ b511 := own_lt F510.lt g511
  have ne_b488r0_b511 : b488r0 ≠ b511 := own_lt f514.lt g511
  have ne_b488_b511 : b488 ≠ b511 := own_lt f515.lt g511
  have ne_b488r1_b511 : b488r1 ≠ b511 := own_lt f516.lt g511
  have ne_b492_b511 : b492 ≠ b511 := own_lt f517.lt g511
  have ne_b501_b511 : b501 ≠ b511 := own_lt f513.lt g511
  have f519 := ((f508.wr W510).ext E511)
  have f520 := (((((((F_holder.ext E488).other W491 (Or.inr (slot_ne (Or.inr (hw _ tw_21)) (Or.inr (hw _ tw_14)) (by decide) (t := (.array .int)) (t' := (.array (.array .long))) (by decide) (by decide)))).ext E492).other W500 (Or.inr (slot_ne (Or.inr (hw _ tw_21)) (Or.inr (hw _ tw_16)) (by decide) (t := (.array .int)) (t' := (.array .long)) (by decide) (by decide)))).ext E501).other W510 (Or.inr (slot_ne (Or.inr (hw _ tw_21)) (Or.inr (hw _ tw_18)) (by decide) (t := (.array .int)) (t' := (.array .long)) (by decide) (by decide)))).ext E511)
  refine own_putfield X511 hx hby hZ hown (host := "") (Or.inl (hw _ tw_20)) Via.refl e511 f520 f519 (Or.inr ⟨(hw _ tw_21), rfl, hnm⟩) (hw _ tw_2) (ty := (.array .int)) (by decide) rfl rfl N510 gx  d1_38 rfl (fun T521 h521 L521 X521 e521 W521 N521 => ?_)
  have F521 := f520.same W521
  refine own_aloadN X521 hx hby d1_41 rfl rfl rfl ?_
  refine own_iloadN X521 hx hby d1_42 rfl rfl ?_
  refine own_iconst X521 hx hby d1_43 rfl (1 : Int32) rfl ?_
  refine own_iadd X521 hx hby d1_44 rfl ?_
  show Ends p.tables e below _ (T521.setTop (mkF m 45 #[.val (.ref x0), .val (.int (2 : Int32)), .val (.int (2 : Int32))] [(.int (3 : Int32)), (.ref x0)]))
  have f523 := ((f512.ext E511).wr W521 gx)
  refine own_newarray X521 hx hby hZ (aty := .int) (hw _ tw_19) e521 (by decide) 3 (by decide) (by decide) (by decide) (by decide) .int rfl [(.int (0 : Int32)), (.int (0 : Int32)), (.int (0 : Int32))] rfl d1_45 rfl (fun T522 h522 b522 k522 X522 e522 g522 E522 V522 => ?_)
  have lt_x0_b522 : @LT.lt Nat instLTNat x0 b522 := own_ltt F521.lt g522
  have f524 := (V511.other W521 (Ne.symm ne_x0_b511))
  have lt_b511_b522 : @LT.lt Nat instLTNat b511 b522 := own_ltt f524.lt g522
  have f525 := ((f514.ext E511).other W521 (Ne.symm (Nat.ne_of_lt lt_x0_b488r0)))
  have lt_b488r0_b522 : @LT.lt Nat instLTNat b488r0 b522 := own_ltt f525.lt g522
  have f526 := ((f515.ext E511).other W521 (Ne.symm ne_x0_b488))
  have lt_b488_b522 : @LT.lt Nat instLTNat b488 b522 := own_ltt f526.lt g522
  have f527 := ((f516.ext E511).other W521 (Ne.symm (Nat.ne_of_lt lt_x0_b488r1)))
  have lt_b488r1_b522 : @LT.lt Nat instLTNat b488r1 b522 := own_ltt f527.lt g522
  have f528 := ((f517.ext E511).other W521 (Ne.symm ne_x0_b492))
  have lt_b492_b522 : @LT.lt Nat instLTNat b492 b522 := own_ltt f528.lt g522
  have f529 := ((f513.ext E511).other W521 (Ne.symm ne_x0_b501))
  have lt_b501_b522 : @LT.lt Nat instLTNat b501 b522 := own_ltt f529.lt g522
  have ge_b522 : n0 ≤ b522 := own_ge f523 g522
  have f530 := ((f518.ext E511).wr W521 (Or.inl (by simp)))
  have sz_b522 : h0.size ≤ b522 := Nat.le_trans f530.1 (Nat.le_of_eq g522.symm)
  have ne_x0_b522 : x0 ≠ b522 := own_lt F521.lt g522
  have ne_b488r0_b522 : b488r0 ≠ b522 := own_lt f525.lt g522
  have ne_b488_b522 : b488 ≠ b522 := own_lt f526.lt g522
  have ne_b488r1_b522 : b488r1 ≠ b522 := own_lt f527.lt g522
  have ne_b492_b522 : b492 ≠ b522 := own_lt f528.lt g522
  have ne_b501_b522 : b501 ≠ b522 := own_lt f529.lt g522
  have ne_b511_b522 : b511 ≠ b522 := own_lt f524.lt g522
  have f531 := ((f519.wr W521).ext E522)
  have f532 := (((((((((F_previous.ext E488).other W491 (Or.inr (slot_ne (Or.inr (hw _ tw_23)) (Or.inr (hw _ tw_14)) (by decide) (t := (.array .int)) (t' := (.array (.array .long))) (by decide) (by decide)))).ext E492).other W500 (Or.inr (slot_ne (Or.inr (hw _ tw_23)) (Or.inr (hw _ tw_16)) (by decide) (t := (.array .int)) (t' := (.array .long)) (by decide) (by decide)))).ext E501).other W510 (Or.inr (slot_ne (Or.inr (hw _ tw_23)) (Or.inr (hw _ tw_18)) (by decide) (t := (.array .int)) (t' := (.array .long)) (by decide) (by decide)))).ext E511).other W521 (Or.inr (slot_ne (Or.inr (hw _ tw_23)) (Or.inr (hw _ tw_21)) (by decide) (t := (.array .int)) (t' := (.array .int)) (by decide) (by decide)))).ext E522)
  refine own_putfield X522 hx hby hZ hown (host := "") (Or.inl (hw _ tw_22)) Via.refl e522 f532 f531 (Or.inr ⟨(hw _ tw_23), rfl, hnm⟩) (hw _ tw_2) (ty := (.array .int)) (by decide) rfl rfl N521 gx  d1_47 rfl (fun T533 h533 L533 X533 e533 W533 N533 => ?_)
  have F533 := f532.same W533
  refine own_aloadN X533 hx hby d1_50 rfl rfl rfl ?_
  refine own_iloadN X533 hx hby d1_51 rfl rfl ?_
  refine own_iconst X533 hx hby d1_52 rfl (1 : Int32) rfl ?_
  refine own_iadd X533 hx hby d1_53 rfl ?_
  show Ends p.tables e below _ (T533.setTop (mkF m 54 #[.val (.ref x0), .val (.int (2 : Int32)), .val (.int (2 : Int32))] [(.int (3 : Int32)), (.ref x0)]))
  have f535 := ((f523.ext E522).wr W533 gx)
  refine own_newarray X533 hx hby hZ (aty := .long) (hw _ tw_12) e533 (by decide) 3 (by decide) (by decide) (by decide) (by decide) .long rfl [(.long (0 : Int64)), (.long (0 : Int64)), (.long (0 : Int64))] rfl d1_54 rfl (fun T534 h534 b534 k534 X534 e534 g534 E534 V534 => ?_)
  have lt_x0_b534 : @LT.lt Nat instLTNat x0 b534 := own_ltt F533.lt g534
  have f536 := (V522.other W533 (Ne.symm ne_x0_b522))
  have lt_b522_b534 : @LT.lt Nat instLTNat b522 b534 := own_ltt f536.lt g534
  have f537 := ((f525.ext E522).other W533 (Ne.symm (Nat.ne_of_lt lt_x0_b488r0)))
  have lt_b488r0_b534 : @LT.lt Nat instLTNat b488r0 b534 := own_ltt f537.lt g534
  have f538 := ((f526.ext E522).other W533 (Ne.symm ne_x0_b488))
  have lt_b488_b534 : @LT.lt Nat instLTNat b488 b534 := own_ltt f538.lt g534
  have f539 := ((f527.ext E522).other W533 (Ne.symm (Nat.ne_of_lt lt_x0_b488r1)))
  have lt_b488r1_b534 : @LT.lt Nat instLTNat b488r1 b534 := own_ltt f539.lt g534
  have f540 := ((f528.ext E522).other W533 (Ne.symm ne_x0_b492))
  have lt_b492_b534 : @LT.lt Nat instLTNat b492 b534 := own_ltt f540.lt g534
  have f541 := ((f529.ext E522).other W533 (Ne.symm ne_x0_b501))
  have lt_b501_b534 : @LT.lt Nat instLTNat b501 b534 := own_ltt f541.lt g534
  have f542 := ((f524.ext E522).other W533 (Ne.symm ne_x0_b511))
  have lt_b511_b534 : @LT.lt Nat instLTNat b511 b534 := own_ltt f542.lt g534
  have ge_b534 : n0 ≤ b534 := own_ge f535 g534
  have f543 := ((f530.ext E522).wr W533 (Or.inl (by simp)))
  have sz_b534 : h0.size ≤ b534 := Nat.le_trans f543.1 (Nat.le_of_eq g534.symm)
  have ne_x0_b534 : x0 ≠ b534 := own_lt F533.lt g534
  have ne_b488r0_b534 : b488r0 ≠ b534 := own_lt f537.lt g534
  have ne_b488_b534 : b488 ≠ b534 := own_lt f538.lt g534
  have ne_b488r1_b534 : b488r1 ≠ b534 := own_lt f539.lt g534
  have ne_b492_b534 : b492 ≠ b534 := own_lt f540.lt g534
  have ne_b501_b534 : b501 ≠ b534 := own_lt f541.lt g534
  have ne_b511_b534 : b511 ≠ b534 := own_lt f542.lt g534
  have ne_b522_b534 : b522 ≠ b534 := own_lt f536.lt g534
  have f544 := ((f531.wr W533).ext E534)
  have f545 := (((((((((((F_reach.ext E488).other W491 (Or.inr (slot_ne (Or.inr (hw _ tw_25)) (Or.inr (hw _ tw_14)) (by decide) (t := (.array .long)) (t' := (.array (.array .long))) (by decide) (by decide)))).ext E492).other W500 (Or.inr (slot_ne (Or.inr (hw _ tw_25)) (Or.inr (hw _ tw_16)) (by decide) (t := (.array .long)) (t' := (.array .long)) (by decide) (by decide)))).ext E501).other W510 (Or.inr (slot_ne (Or.inr (hw _ tw_25)) (Or.inr (hw _ tw_18)) (by decide) (t := (.array .long)) (t' := (.array .long)) (by decide) (by decide)))).ext E511).other W521 (Or.inr (slot_ne (Or.inr (hw _ tw_25)) (Or.inr (hw _ tw_21)) (by decide) (t := (.array .long)) (t' := (.array .int)) (by decide) (by decide)))).ext E522).other W533 (Or.inr (slot_ne (Or.inr (hw _ tw_25)) (Or.inr (hw _ tw_23)) (by decide) (t := (.array .long)) (t' := (.array .int)) (by decide) (by decide)))).ext E534)
  refine own_putfield X534 hx hby hZ hown (host := "") (Or.inl (hw _ tw_24)) Via.refl e534 f545 f544 (Or.inr ⟨(hw _ tw_25), rfl, hnm⟩) (hw _ tw_2) (ty := (.array .long)) (by decide) rfl rfl N533 gx  d1_56 rfl (fun T546 h546 L546 X546 e546 W546 N546 => ?_)
  have F546 := f545.same W546
  refine own_aloadN X546 hx hby d1_59 rfl rfl rfl ?_
  refine own_iloadN X546 hx hby d1_60 rfl rfl ?_
  refine own_iconst X546 hx hby d1_61 rfl (1 : Int32) rfl ?_
  refine own_iadd X546 hx hby d1_62 rfl ?_
  show Ends p.tables e below _ (T546.setTop (mkF m 63 #[.val (.ref x0), .val (.int (2 : Int32)), .val (.int (2 : Int32))] [(.int (3 : Int32)), (.ref x0)]))
  have f548 := ((f535.ext E534).wr W546 gx)
  refine own_newarray X546 hx hby hZ (aty := .boolean) (hw _ tw_26) e546 (by decide) 3 (by decide) (by decide) (by decide) (by decide) .boolean rfl [(.int (0 : Int32)), (.int (0 : Int32)), (.int (0 : Int32))] rfl d1_63 rfl (fun T547 h547 b547 k547 X547 e547 g547 E547 V547 => ?_)
  have lt_x0_b547 : @LT.lt Nat instLTNat x0 b547 := own_ltt F546.lt g547
  have f549 := (V534.other W546 (Ne.symm ne_x0_b534))
  have lt_b534_b547 : @LT.lt Nat instLTNat b534 b547 := own_ltt f549.lt g547
  have f550 := ((f537.ext E534).other W546 (Ne.symm (Nat.ne_of_lt lt_x0_b488r0)))
  have lt_b488r0_b547 : @LT.lt Nat instLTNat b488r0 b547 := own_ltt f550.lt g547
  have f551 := ((f538.ext E534).other W546 (Ne.symm ne_x0_b488))
  have lt_b488_b547 : @LT.lt Nat instLTNat b488 b547 := own_ltt f551.lt g547
  have f552 := ((f539.ext E534).other W546 (Ne.symm (Nat.ne_of_lt lt_x0_b488r1)))
  have lt_b488r1_b547 : @LT.lt Nat instLTNat b488r1 b547 := own_ltt f552.lt g547
  have f553 := ((f540.ext E534).other W546 (Ne.symm ne_x0_b492))
  have lt_b492_b547 : @LT.lt Nat instLTNat b492 b547 := own_ltt f553.lt g547
  have f554 := ((f541.ext E534).other W546 (Ne.symm ne_x0_b501))
  have lt_b501_b547 : @LT.lt Nat instLTNat b501 b547 := own_ltt f554.lt g547
  have f555 := ((f542.ext E534).other W546 (Ne.symm ne_x0_b511))
  have lt_b511_b547 : @LT.lt Nat instLTNat b511 b547 := own_ltt f555.lt g547
  have f556 := ((f536.ext E534).other W546 (Ne.symm ne_x0_b522))
  have lt_b522_b547 : @LT.lt Nat instLTNat b522 b547 := own_ltt f556.lt g547
  have ge_b547 : n0 ≤ b547 := own_ge f548 g547
  have f557 := ((f543.ext E534).wr W546 (Or.inl (by simp)))
  have sz_b547 : h0.size ≤ b547 := Nat.le_trans f557.1 (Nat.le_of_eq g547.symm)
  have ne_x0_b547 : x0 ≠ b547 := own_lt F546.lt g547
  have ne_b488r0_b547 : b488r0 ≠ b547 := own_lt f550.lt g547
  have ne_b488_b547 : b488 ≠ b547 := own_lt f551.lt g547
  have ne_b488r1_b547 : b488r1 ≠ b547 := own_lt f552.lt g547
  have ne_b492_b547 : b492 ≠ b547 := own_lt f553.lt g547
  have ne_b501_b547 : b501 ≠ b547 := own_lt f554.lt g547
  have ne_b511_b547 : b511 ≠ b547 := own_lt f555.lt g547
  have ne_b522_b547 : b522 ≠ b547 := own_lt f556.lt g547
  have ne_b534_b547 : b534 ≠ b547 := own_lt f549.lt g547
  have f558 := ((f544.wr W546).ext E547)
  have f559 := (((((((((((((F_done.ext E488).other W491 (Or.inr (slot_ne (Or.inr (hw _ tw_28)) (Or.inr (hw _ tw_14)) (by decide) (t := (.array .boolean)) (t' := (.array (.array .long))) (by decide) (by decide)))).ext E492).other W500 (Or.inr (slot_ne (Or.inr (hw _ tw_28)) (Or.inr (hw _ tw_16)) (by decide) (t := (.array .boolean)) (t' := (.array .long)) (by decide) (by decide)))).ext E501).other W510 (Or.inr (slot_ne (Or.inr (hw _ tw_28)) (Or.inr (hw _ tw_18)) (by decide) (t := (.array .boolean)) (t' := (.array .long)) (by decide) (by decide)))).ext E511).other W521 (Or.inr (slot_ne (Or.inr (hw _ tw_28)) (Or.inr (hw _ tw_21)) (by decide) (t := (.array .boolean)) (t' := (.array .int)) (by decide) (by decide)))).ext E522).other W533 (Or.inr (slot_ne (Or.inr (hw _ tw_28)) (Or.inr (hw _ tw_23)) (by decide) (t := (.array .boolean)) (t' := (.array .int)) (by decide) (by decide)))).ext E534).other W546 (Or.inr (slot_ne (Or.inr (hw _ tw_28)) (Or.inr (hw _ tw_25)) (by decide) (t := (.array .boolean)) (t' := (.array .long)) (by decide) (by decide)))).ext E547)
  refine own_putfield X547 hx hby hZ hown (host := "") (Or.inl (hw _ tw_27)) Via.refl e547 f559 f558 (Or.inr ⟨(hw _ tw_28), rfl, hnm⟩) (hw _ tw_2) (ty := (.array .boolean)) (by decide) rfl rfl N546 gx  d1_65 rfl (fun T560 h560 L560 X560 e560 W560 N560 => ?_)
  have F560 := f559.same W560
  refine own_retV X560 hx hby hret hlk d1_68 (by decide) (by decide) ?_
  rw [e560]
  have f561 := (f558.wr W560)
  have f562 := ((((((((((((F491.ext E492).other W500 (Or.inr (slot_ne (Or.inr (hw _ tw_14)) (Or.inr (hw _ tw_16)) (by decide) (t := (.array (.array .long))) (t' := (.array .long)) (by decide) (by decide)))).ext E501).other W510 (Or.inr (slot_ne (Or.inr (hw _ tw_14)) (Or.inr (hw _ tw_18)) (by decide) (t := (.array (.array .long))) (t' := (.array .long)) (by decide) (by decide)))).ext E511).other W521 (Or.inr (slot_ne (Or.inr (hw _ tw_14)) (Or.inr (hw _ tw_21)) (by decide) (t := (.array (.array .long))) (t' := (.array .int)) (by decide) (by decide)))).ext E522).other W533 (Or.inr (slot_ne (Or.inr (hw _ tw_14)) (Or.inr (hw _ tw_23)) (by decide) (t := (.array (.array .long))) (t' := (.array .int)) (by decide) (by decide)))).ext E534).other W546 (Or.inr (slot_ne (Or.inr (hw _ tw_14)) (Or.inr (hw _ tw_25)) (by decide) (t := (.array (.array .long))) (t' := (.array .long)) (by decide) (by decide)))).ext E547).other W560 (Or.inr (slot_ne (Or.inr (hw _ tw_14)) (Or.inr (hw _ tw_28)) (by decide) (t := (.array (.array .long))) (t' := (.array .boolean)) (by decide) (by decide))))
  have f563 := ((((((((((F500.ext E501).other W510 (Or.inr (slot_ne (Or.inr (hw _ tw_16)) (Or.inr (hw _ tw_18)) (by decide) (t := (.array .long)) (t' := (.array .long)) (by decide) (by decide)))).ext E511).other W521 (Or.inr (slot_ne (Or.inr (hw _ tw_16)) (Or.inr (hw _ tw_21)) (by decide) (t := (.array .long)) (t' := (.array .int)) (by decide) (by decide)))).ext E522).other W533 (Or.inr (slot_ne (Or.inr (hw _ tw_16)) (Or.inr (hw _ tw_23)) (by decide) (t := (.array .long)) (t' := (.array .int)) (by decide) (by decide)))).ext E534).other W546 (Or.inr (slot_ne (Or.inr (hw _ tw_16)) (Or.inr (hw _ tw_25)) (by decide) (t := (.array .long)) (t' := (.array .long)) (by decide) (by decide)))).ext E547).other W560 (Or.inr (slot_ne (Or.inr (hw _ tw_16)) (Or.inr (hw _ tw_28)) (by decide) (t := (.array .long)) (t' := (.array .boolean)) (by decide) (by decide))))
  have f564 := ((((((((F510.ext E511).other W521 (Or.inr (slot_ne (Or.inr (hw _ tw_18)) (Or.inr (hw _ tw_21)) (by decide) (t := (.array .long)) (t' := (.array .int)) (by decide) (by decide)))).ext E522).other W533 (Or.inr (slot_ne (Or.inr (hw _ tw_18)) (Or.inr (hw _ tw_23)) (by decide) (t := (.array .long)) (t' := (.array .int)) (by decide) (by decide)))).ext E534).other W546 (Or.inr (slot_ne (Or.inr (hw _ tw_18)) (Or.inr (hw _ tw_25)) (by decide) (t := (.array .long)) (t' := (.array .long)) (by decide) (by decide)))).ext E547).other W560 (Or.inr (slot_ne (Or.inr (hw _ tw_18)) (Or.inr (hw _ tw_28)) (by decide) (t := (.array .long)) (t' := (.array .boolean)) (by decide) (by decide))))
  have f565 := ((((((F521.ext E522).other W533 (Or.inr (slot_ne (Or.inr (hw _ tw_21)) (Or.inr (hw _ tw_23)) (by decide) (t := (.array .int)) (t' := (.array .int)) (by decide) (by decide)))).ext E534).other W546 (Or.inr (slot_ne (Or.inr (hw _ tw_21)) (Or.inr (hw _ tw_25)) (by decide) (t := (.array .int)) (t' := (.array .long)) (by decide) (by decide)))).ext E547).other W560 (Or.inr (slot_ne (Or.inr (hw _ tw_21)) (Or.inr (hw _ tw_28)) (by decide) (t := (.array .int)) (t' := (.array .boolean)) (by decide) (by decide))))
  have f566 := ((((F533.ext E534).other W546 (Or.inr (slot_ne (Or.inr (hw _ tw_23)) (Or.inr (hw _ tw_25)) (by decide) (t := (.array .int)) (t' := (.array .long)) (by decide) (by decide)))).ext E547).other W560 (Or.inr (slot_ne (Or.inr (hw _ tw_23)) (Or.inr (hw _ tw_28)) (by decide) (t := (.array .int)) (t' := (.array .boolean)) (by decide) (by decide))))
  have f567 := ((F546.ext E547).other W560 (Or.inr (slot_ne (Or.inr (hw _ tw_25)) (Or.inr (hw _ tw_28)) (by decide) (t := (.array .long)) (t' := (.array .boolean)) (by decide) (by decide))))
  have f568 := ((f551.ext E547).other W560 (Ne.symm ne_x0_b488))
  have f569 := ((f550.ext E547).other W560 (Ne.symm (Nat.ne_of_lt lt_x0_b488r0)))
  have f570 := ((f552.ext E547).other W560 (Ne.symm (Nat.ne_of_lt lt_x0_b488r1)))
  have f571 := ((f557.ext E547).wr W560 (Or.inl (by simp)))
  have f572 := ((f553.ext E547).other W560 (Ne.symm ne_x0_b492))
  have f573 := ((f554.ext E547).other W560 (Ne.symm ne_x0_b501))
  have f574 := ((f555.ext E547).other W560 (Ne.symm ne_x0_b511))
  have f575 := ((f556.ext E547).other W560 (Ne.symm ne_x0_b522))
  have f576 := ((f549.ext E547).other W560 (Ne.symm ne_x0_b534))
  have f577 := (V547.other W560 (Ne.symm ne_x0_b547))
  refine ⟨b488, b488r0, b488r1, b492, b501, b511, b522, b534, b547, _, _, _, _, _, _, _, _, _, rfl, N560, f571, ?_, ⟨f561, f562, f563, f564, f565, f566, f567, F560, f568, f569, f570⟩, f572, f573, f574, f575, f576, f577⟩
  exact ⟨gx, lt_x0_b488, lt_b488_b488r0, lt_b488r0_b488r1, lt_b488r1_b492, lt_b492_b501, lt_b501_b511, lt_b511_b522, lt_b522_b534, lt_b534_b547⟩
set_option maxRecDepth 65536 in
set_option maxHeartbeats 40000000 in
theorem rmrow0 (l : Launch) (Z : State) (a0 : Array Value) (hw : ∀ d ∈ tables_1, d.before a0 Z = true) (x : Addr) (h0 : Heap) {cs r0 r1 up vp ho pr re dn : Addr} {kc k0 k1 : ClassId} {ca cb cc cd : Int64} (B : OwnB Z h0 x cs r0 r1 up vp ho pr re dn kc k0 k1 ca cb cc cd) :
    OwnMet l Z (⟨"com/example/weftwork/weftwork/algorithm/Assignment", "row", "(I)[J"⟩ : MethodName) prog_3_method_2_code 2 (some (.array .long)) [] ({ frames := 0, cells := 0, slots := 0, locals := 0 } : Room) #[(.ref x), (.int (0 : Int32))] h0 (fun v h L => v = some (.ref r0) ∧ L = [] ∧ h = h0) := by
  refine own_body (plainFor_of_name pn_1) (fun m => ef_row0 m x) ?_
  intro p e s m below meth c s₁ X0 hx hby hml hown hnm hret hlk hZ e0
  replace hown : s.vm.findClass "com/example/weftwork/weftwork/algorithm/Assignment" = some m.cls := hown
  replace hml : c.maxLocals = 2 := hml
  show Ends p.tables e below _ (s₁.setTop (mkF m 0 #[.val (.ref x), .val (.int (0 : Int32))] []))
  refine own_aloadN X0 hx hby d3_0 rfl rfl rfl ?_
  refine own_getfield X0 hx hby hZ hown (host := "") (Or.inl (hw _ tw_13)) Via.refl e0 (B_costs B) d3_1 rfl (fun T578 X578 e578 => ?_)
  refine own_iloadN X578 hx hby d3_4 rfl rfl ?_
  refine own_aaload X578 hx hby hZ (.ref r0) rfl e578 (B_cs B) (by decide) rfl d3_5 rfl ?_
  refine own_ret X578 hx hby hret hlk d3_6 (.ref r0) rfl (Or.inr (Or.inr ⟨rfl, rfl, rfl⟩)) (by decide) (by decide) ?_
  exact ⟨rfl, rfl, e578⟩
set_option maxRecDepth 65536 in
set_option maxHeartbeats 40000000 in
theorem rmroc0 (l : Launch) (Z : State) (a0 : Array Value) (hw : ∀ d ∈ tables_1, d.before a0 Z = true) (x : Addr) (h0 : Heap) {cs r0 r1 up vp ho pr re dn : Addr} {kc k0 k1 ku kv : ClassId} {ca cb cc cd Ua Ub Va Vb Vc : Int64} (B : OwnB Z h0 x cs r0 r1 up vp ho pr re dn kc k0 k1 ca cb cc cd) (Aup : Arv Z h0 up ku .long (3 : Int32) [(.long (0 : Int64)), (.long Ua), (.long Ub)] (.long 0)) (Avp : Arv Z h0 vp kv .long (3 : Int32) [(.long Va), (.long Vb), (.long Vc)] (.long 0)) :
    OwnMet l Z (⟨"com/example/weftwork/weftwork/algorithm/Assignment", "rowCharge", "(I)J"⟩ : MethodName) prog_3_method_5_code 2 (some .long) [] ({ frames := 0, cells := 0, slots := 0, locals := 0 } : Room) #[(.ref x), (.int (0 : Int32))] h0 (fun v h L => v = some (.long Ua) ∧ L = [] ∧ h = h0) := by
  refine own_body (plainFor_of_name pn_1) (fun m => ef_roc0 m x) ?_
  intro p e s m below meth c s₁ X0 hx hby hml hown hnm hret hlk hZ e0
  replace hown : s.vm.findClass "com/example/weftwork/weftwork/algorithm/Assignment" = some m.cls := hown
  replace hml : c.maxLocals = 2 := hml
  show Ends p.tables e below _ (s₁.setTop (mkF m 0 #[.val (.ref x), .val (.int (0 : Int32))] []))
  refine own_aloadN X0 hx hby d12_0 rfl rfl rfl ?_
  refine own_getfield X0 hx hby hZ hown (host := "") (Or.inl (hw _ tw_15)) Via.refl e0 (B_rowPotential B) d12_1 rfl (fun T579 X579 e579 => ?_)
  refine own_iloadN X579 hx hby d12_4 rfl rfl ?_
  refine own_iconst X579 hx hby d12_5 rfl (1 : Int32) rfl ?_
  refine own_iadd X579 hx hby d12_6 rfl ?_
  show Ends p.tables e below _ (T579.setTop (mkF m 7 #[.val (.ref x), .val (.int (0 : Int32))] [(.int (1 : Int32)), (.ref up)]))
  refine own_laload X579 hx hby hZ Ua e579 Aup (by decide) rfl d12_7 rfl ?_
  refine own_ret X579 hx hby hret hlk d12_8 (.long Ua) rfl (Or.inr (Or.inl ⟨rfl, rfl, _, rfl⟩)) (by decide) (by decide) ?_
  exact ⟨rfl, rfl, e579⟩
set_option maxRecDepth 65536 in
set_option maxHeartbeats 40000000 in
theorem rmcoc0 (l : Launch) (Z : State) (a0 : Array Value) (hw : ∀ d ∈ tables_1, d.before a0 Z = true) (x : Addr) (h0 : Heap) {cs r0 r1 up vp ho pr re dn : Addr} {kc k0 k1 ku kv : ClassId} {ca cb cc cd Ua Ub Va Vb Vc : Int64} (B : OwnB Z h0 x cs r0 r1 up vp ho pr re dn kc k0 k1 ca cb cc cd) (Aup : Arv Z h0 up ku .long (3 : Int32) [(.long (0 : Int64)), (.long Ua), (.long Ub)] (.long 0)) (Avp : Arv Z h0 vp kv .long (3 : Int32) [(.long Va), (.long Vb), (.long Vc)] (.long 0)) :
    OwnMet l Z (⟨"com/example/weftwork/weftwork/algorithm/Assignment", "columnCharge", "(I)J"⟩ : MethodName) prog_3_method_6_code 2 (some .long) [] ({ frames := 0, cells := 0, slots := 0, locals := 0 } : Room) #[(.ref x), (.int (0 : Int32))] h0 (fun v h L => v = some (.long Vb) ∧ L = [] ∧ h = h0) := by
  refine own_body (plainFor_of_name pn_1) (fun m => ef_coc0 m x) ?_
  intro p e s m below meth c s₁ X0 hx hby hml hown hnm hret hlk hZ e0
  replace hown : s.vm.findClass "com/example/weftwork/weftwork/algorithm/Assignment" = some m.cls := hown
  replace hml : c.maxLocals = 2 := hml
  show Ends p.tables e below _ (s₁.setTop (mkF m 0 #[.val (.ref x), .val (.int (0 : Int32))] []))
  refine own_aloadN X0 hx hby d13_0 rfl rfl rfl ?_
  refine own_getfield X0 hx hby hZ hown (host := "") (Or.inl (hw _ tw_17)) Via.refl e0 (B_columnPotential B) d13_1 rfl (fun T580 X580 e580 => ?_)
  refine own_iloadN X580 hx hby d13_4 rfl rfl ?_
  refine own_iconst X580 hx hby d13_5 rfl (1 : Int32) rfl ?_
  refine own_iadd X580 hx hby d13_6 rfl ?_
  show Ends p.tables e below _ (T580.setTop (mkF m 7 #[.val (.ref x), .val (.int (0 : Int32))] [(.int (1 : Int32)), (.ref vp)]))
  refine own_laload X580 hx hby hZ Vb e580 Avp (by decide) rfl d13_7 rfl ?_
  refine own_ret X580 hx hby hret hlk d13_8 (.long Vb) rfl (Or.inr (Or.inl ⟨rfl, rfl, _, rfl⟩)) (by decide) (by decide) ?_
  exact ⟨rfl, rfl, e580⟩
set_option maxRecDepth 65536 in
set_option maxHeartbeats 40000000 in
theorem rmrdc00 (l : Launch) (Z : State) (a0 : Array Value) (hw : ∀ d ∈ tables_1, d.before a0 Z = true) (x : Addr) (h0 : Heap) {cs r0 r1 up vp ho pr re dn : Addr} {kc k0 k1 ku kv : ClassId} {ca cb cc cd Ua Ub Va Vb Vc : Int64} (B : OwnB Z h0 x cs r0 r1 up vp ho pr re dn kc k0 k1 ca cb cc cd) (Aup : Arv Z h0 up ku .long (3 : Int32) [(.long (0 : Int64)), (.long Ua), (.long Ub)] (.long 0)) (Avp : Arv Z h0 vp kv .long (3 : Int32) [(.long Va), (.long Vb), (.long Vc)] (.long 0)) :
    OwnMet l Z (⟨"com/example/weftwork/weftwork/algorithm/Assignment", "reducedCost", "(II)J"⟩ : MethodName) prog_3_method_4_code 3 (some .long) [] ({ frames := 0, cells := 0, slots := 0, locals := 0 } : Room) #[(.ref x), (.int (0 : Int32)), (.int (0 : Int32))] h0 (fun v h L => v = some (.long (ca - Ua - Vb)) ∧ L = [] ∧ h = h0) := by
  refine own_body (plainFor_of_name pn_1) (fun m => ef_rdc00 m x) ?_
  intro p e s m below meth c s₁ X0 hx hby hml hown hnm hret hlk hZ e0
  replace hown : s.vm.findClass "com/example/weftwork/weftwork/algorithm/Assignment" = some m.cls := hown
  replace hml : c.maxLocals = 3 := hml
  show Ends p.tables e below _ (s₁.setTop (mkF m 0 #[.val (.ref x), .val (.int (0 : Int32)), .val (.int (0 : Int32))] []))
  refine own_aloadN X0 hx hby d11_0 rfl rfl rfl ?_
  refine own_getfield X0 hx hby hZ hown (host := "") (Or.inl (hw _ tw_13)) Via.refl e0 (B_costs B) d11_1 rfl (fun T581 X581 e581 => ?_)
  refine own_iloadN X581 hx hby d11_4 rfl rfl ?_
  refine own_aaload X581 hx hby hZ (.ref r0) rfl e581 (B_cs B) (by decide) rfl d11_5 rfl ?_
  refine own_iloadN X581 hx hby d11_6 rfl rfl ?_
  refine own_laload X581 hx hby hZ ca e581 (B_r0 B) (by decide) rfl d11_7 rfl ?_
  refine own_aloadN X581 hx hby d11_8 rfl rfl rfl ?_
  refine own_getfield X581 hx hby hZ hown (host := "") (Or.inl (hw _ tw_15)) Via.refl e581 (B_rowPotential B) d11_9 rfl (fun T582 X582 e582 => ?_)
  refine own_iloadN X582 hx hby d11_12 rfl rfl ?_
  refine own_iconst X582 hx hby d11_13 rfl (1 : Int32) rfl ?_
  refine own_iadd X582 hx hby d11_14 rfl ?_
  show Ends p.tables e below _ (T582.setTop (mkF m 15 #[.val (.ref x), .val (.int (0 : Int32)), .val (.int (0 : Int32))] [(.int (1 : Int32)), (.ref up), (.long ca)]))
  refine own_laload X582 hx hby hZ Ua e582 Aup (by decide) rfl d11_15 rfl ?_
  refine own_lsub X582 hx hby d11_16 rfl ?_
  refine own_aloadN X582 hx hby d11_17 rfl rfl rfl ?_
  refine own_getfield X582 hx hby hZ hown (host := "") (Or.inl (hw _ tw_17)) Via.refl e582 (B_columnPotential B) d11_18 rfl (fun T583 X583 e583 => ?_)
  refine own_iloadN X583 hx hby d11_21 rfl rfl ?_
  refine own_iconst X583 hx hby d11_22 rfl (1 : Int32) rfl ?_
  refine own_iadd X583 hx hby d11_23 rfl ?_
  show Ends p.tables e below _ (T583.setTop (mkF m 24 #[.val (.ref x), .val (.int (0 : Int32)), .val (.int (0 : Int32))] [(.int (1 : Int32)), (.ref vp), (.long (ca - Ua))]))
  refine own_laload X583 hx hby hZ Vb e583 Avp (by decide) rfl d11_24 rfl ?_
  refine own_lsub X583 hx hby d11_25 rfl ?_
  refine own_ret X583 hx hby hret hlk d11_26 (.long ((ca - Ua) - Vb)) rfl (Or.inr (Or.inl ⟨rfl, rfl, _, rfl⟩)) (by decide) (by decide) ?_
  exact ⟨rfl, rfl, e583⟩
set_option maxRecDepth 65536 in
set_option maxHeartbeats 40000000 in
theorem rmrdc01 (l : Launch) (Z : State) (a0 : Array Value) (hw : ∀ d ∈ tables_1, d.before a0 Z = true) (x : Addr) (h0 : Heap) {cs r0 r1 up vp ho pr re dn : Addr} {kc k0 k1 ku kv : ClassId} {ca cb cc cd Ua Ub Va Vb Vc : Int64} (B : OwnB Z h0 x cs r0 r1 up vp ho pr re dn kc k0 k1 ca cb cc cd) (Aup : Arv Z h0 up ku .long (3 : Int32) [(.long (0 : Int64)), (.long Ua), (.long Ub)] (.long 0)) (Avp : Arv Z h0 vp kv .long (3 : Int32) [(.long Va), (.long Vb), (.long Vc)] (.long 0)) :
    OwnMet l Z (⟨"com/example/weftwork/weftwork/algorithm/Assignment", "reducedCost", "(II)J"⟩ : MethodName) prog_3_method_4_code 3 (some .long) [] ({ frames := 0, cells := 0, slots := 0, locals := 0 } : Room) #[(.ref x), (.int (0 : Int32)), (.int (1 : Int32))] h0 (fun v h L => v = some (.long (cb - Ua - Vc)) ∧ L = [] ∧ h = h0) := by
  refine own_body (plainFor_of_name pn_1) (fun m => ef_rdc01 m x) ?_
  intro p e s m below meth c s₁ X0 hx hby hml hown hnm hret hlk hZ e0
  replace hown : s.vm.findClass "com/example/weftwork/weftwork/algorithm/Assignment" = some m.cls := hown
  replace hml : c.maxLocals = 3 := hml
  show Ends p.tables e below _ (s₁.setTop (mkF m 0 #[.val (.ref x), .val (.int (0 : Int32)), .val (.int (1 : Int32))] []))
  refine own_aloadN X0 hx hby d11_0 rfl rfl rfl ?_
  refine own_getfield X0 hx hby hZ hown (host := "") (Or.inl (hw _ tw_13)) Via.refl e0 (B_costs B) d11_1 rfl (fun T584 X584 e584 => ?_)
  refine own_iloadN X584 hx hby d11_4 rfl rfl ?_
  refine own_aaload X584 hx hby hZ (.ref r0) rfl e584 (B_cs B) (by decide) rfl d11_5 rfl ?_
  refine own_iloadN X584 hx hby d11_6 rfl rfl ?_
  refine own_laload X584 hx hby hZ cb e584 (B_r0 B) (by decide) rfl d11_7 rfl ?_
  refine own_aloadN X584 hx hby d11_8 rfl rfl rfl ?_
  refine own_getfield X584 hx hby hZ hown (host := "") (Or.inl (hw _ tw_15)) Via.refl e584 (B_rowPotential B) d11_9 rfl (fun T585 X585 e585 => ?_)
  refine own_iloadN X585 hx hby d11_12 rfl rfl ?_
  refine own_iconst X585 hx hby d11_13 rfl (1 : Int32) rfl ?_
  refine own_iadd X585 hx hby d11_14 rfl ?_
  show Ends p.tables e below _ (T585.setTop (mkF m 15 #[.val (.ref x), .val (.int (0 : Int32)), .val (.int (1 : Int32))] [(.int (1 : Int32)), (.ref up), (.long cb)]))
  refine own_laload X585 hx hby hZ Ua e585 Aup (by decide) rfl d11_15 rfl ?_
  refine own_lsub X585 hx hby d11_16 rfl ?_
  refine own_aloadN X585 hx hby d11_17 rfl rfl rfl ?_
  refine own_getfield X585 hx hby hZ hown (host := "") (Or.inl (hw _ tw_17)) Via.refl e585 (B_columnPotential B) d11_18 rfl (fun T586 X586 e586 => ?_)
  refine own_iloadN X586 hx hby d11_21 rfl rfl ?_
  refine own_iconst X586 hx hby d11_22 rfl (1 : Int32) rfl ?_
  refine own_iadd X586 hx hby d11_23 rfl ?_
  show Ends p.tables e below _ (T586.setTop (mkF m 24 #[.val (.ref x), .val (.int (0 : Int32)), .val (.int (1 : Int32))] [(.int (2 : Int32)), (.ref vp), (.long (cb - Ua))]))
  refine own_laload X586 hx hby hZ Vc e586 Avp (by decide) rfl d11_24 rfl ?_
  refine own_lsub X586 hx hby d11_25 rfl ?_
  refine own_ret X586 hx hby hret hlk d11_26 (.long ((cb - Ua) - Vc)) rfl (Or.inr (Or.inl ⟨rfl, rfl, _, rfl⟩)) (by decide) (by decide) ?_
  exact ⟨rfl, rfl, e586⟩
set_option maxRecDepth 65536 in
set_option maxHeartbeats 40000000 in
theorem rmrow1 (l : Launch) (Z : State) (a0 : Array Value) (hw : ∀ d ∈ tables_1, d.before a0 Z = true) (x : Addr) (h0 : Heap) {cs r0 r1 up vp ho pr re dn : Addr} {kc k0 k1 : ClassId} {ca cb cc cd : Int64} (B : OwnB Z h0 x cs r0 r1 up vp ho pr re dn kc k0 k1 ca cb cc cd) :
    OwnMet l Z (⟨"com/example/weftwork/weftwork/algorithm/Assignment", "row", "(I)[J"⟩ : MethodName) prog_3_method_2_code 2 (some (.array .long)) [] ({ frames := 0, cells := 0, slots := 0, locals := 0 } : Room) #[(.ref x), (.int (1 : Int32))] h0 (fun v h L => v = some (.ref r1) ∧ L = [] ∧ h = h0) := by
  refine own_body (plainFor_of_name pn_1) (fun m => ef_row1 m x) ?_
  intro p e s m below meth c s₁ X0 hx hby hml hown hnm hret hlk hZ e0
  replace hown : s.vm.findClass "com/example/weftwork/weftwork/algorithm/Assignment" = some m.cls := hown
  replace hml : c.maxLocals = 2 := hml
  show Ends p.tables e below _ (s₁.setTop (mkF m 0 #[.val (.ref x), .val (.int (1 : Int32))] []))
  refine own_aloadN X0 hx hby d3_0 rfl rfl rfl ?_
  refine own_getfield X0 hx hby hZ hown (host := "") (Or.inl (hw _ tw_13)) Via.refl e0 (B_costs B) d3_1 rfl (fun T587 X587 e587 => ?_)
  refine own_iloadN X587 hx hby d3_4 rfl rfl ?_
  refine own_aaload X587 hx hby hZ (.ref r1) rfl e587 (B_cs B) (by decide) rfl d3_5 rfl ?_
  refine own_ret X587 hx hby hret hlk d3_6 (.ref r1) rfl (Or.inr (Or.inr ⟨rfl, rfl, rfl⟩)) (by decide) (by decide) ?_
  exact ⟨rfl, rfl, e587⟩
set_option maxRecDepth 65536 in
set_option maxHeartbeats 40000000 in
theorem rmroc1 (l : Launch) (Z : State) (a0 : Array Value) (hw : ∀ d ∈ tables_1, d.before a0 Z = true) (x : Addr) (h0 : Heap) {cs r0 r1 up vp ho pr re dn : Addr} {kc k0 k1 ku kv : ClassId} {ca cb cc cd Ua Ub Va Vb Vc : Int64} (B : OwnB Z h0 x cs r0 r1 up vp ho pr re dn kc k0 k1 ca cb cc cd) (Aup : Arv Z h0 up ku .long (3 : Int32) [(.long (0 : Int64)), (.long Ua), (.long Ub)] (.long 0)) (Avp : Arv Z h0 vp kv .long (3 : Int32) [(.long Va), (.long Vb), (.long Vc)] (.long 0)) :
    OwnMet l Z (⟨"com/example/weftwork/weftwork/algorithm/Assignment", "rowCharge", "(I)J"⟩ : MethodName) prog_3_method_5_code 2 (some .long) [] ({ frames := 0, cells := 0, slots := 0, locals := 0 } : Room) #[(.ref x), (.int (1 : Int32))] h0 (fun v h L => v = some (.long Ub) ∧ L = [] ∧ h = h0) := by
  refine own_body (plainFor_of_name pn_1) (fun m => ef_roc1 m x) ?_
  intro p e s m below meth c s₁ X0 hx hby hml hown hnm hret hlk hZ e0
  replace hown : s.vm.findClass "com/example/weftwork/weftwork/algorithm/Assignment" = some m.cls := hown
  replace hml : c.maxLocals = 2 := hml
  show Ends p.tables e below _ (s₁.setTop (mkF m 0 #[.val (.ref x), .val (.int (1 : Int32))] []))
  refine own_aloadN X0 hx hby d12_0 rfl rfl rfl ?_
  refine own_getfield X0 hx hby hZ hown (host := "") (Or.inl (hw _ tw_15)) Via.refl e0 (B_rowPotential B) d12_1 rfl (fun T588 X588 e588 => ?_)
  refine own_iloadN X588 hx hby d12_4 rfl rfl ?_
  refine own_iconst X588 hx hby d12_5 rfl (1 : Int32) rfl ?_
  refine own_iadd X588 hx hby d12_6 rfl ?_
  show Ends p.tables e below _ (T588.setTop (mkF m 7 #[.val (.ref x), .val (.int (1 : Int32))] [(.int (2 : Int32)), (.ref up)]))
  refine own_laload X588 hx hby hZ Ub e588 Aup (by decide) rfl d12_7 rfl ?_
  refine own_ret X588 hx hby hret hlk d12_8 (.long Ub) rfl (Or.inr (Or.inl ⟨rfl, rfl, _, rfl⟩)) (by decide) (by decide) ?_
  exact ⟨rfl, rfl, e588⟩
set_option maxRecDepth 65536 in
set_option maxHeartbeats 40000000 in
theorem rmcoc1 (l : Launch) (Z : State) (a0 : Array Value) (hw : ∀ d ∈ tables_1, d.before a0 Z = true) (x : Addr) (h0 : Heap) {cs r0 r1 up vp ho pr re dn : Addr} {kc k0 k1 ku kv : ClassId} {ca cb cc cd Ua Ub Va Vb Vc : Int64} (B : OwnB Z h0 x cs r0 r1 up vp ho pr re dn kc k0 k1 ca cb cc cd) (Aup : Arv Z h0 up ku .long (3 : Int32) [(.long (0 : Int64)), (.long Ua), (.long Ub)] (.long 0)) (Avp : Arv Z h0 vp kv .long (3 : Int32) [(.long Va), (.long Vb), (.long Vc)] (.long 0)) :
    OwnMet l Z (⟨"com/example/weftwork/weftwork/algorithm/Assignment", "columnCharge", "(I)J"⟩ : MethodName) prog_3_method_6_code 2 (some .long) [] ({ frames := 0, cells := 0, slots := 0, locals := 0 } : Room) #[(.ref x), (.int (1 : Int32))] h0 (fun v h L => v = some (.long Vc) ∧ L = [] ∧ h = h0) := by
  refine own_body (plainFor_of_name pn_1) (fun m => ef_coc1 m x) ?_
  intro p e s m below meth c s₁ X0 hx hby hml hown hnm hret hlk hZ e0
  replace hown : s.vm.findClass "com/example/weftwork/weftwork/algorithm/Assignment" = some m.cls := hown
  replace hml : c.maxLocals = 2 := hml
  show Ends p.tables e below _ (s₁.setTop (mkF m 0 #[.val (.ref x), .val (.int (1 : Int32))] []))
  refine own_aloadN X0 hx hby d13_0 rfl rfl rfl ?_
  refine own_getfield X0 hx hby hZ hown (host := "") (Or.inl (hw _ tw_17)) Via.refl e0 (B_columnPotential B) d13_1 rfl (fun T589 X589 e589 => ?_)
  refine own_iloadN X589 hx hby d13_4 rfl rfl ?_
  refine own_iconst X589 hx hby d13_5 rfl (1 : Int32) rfl ?_
  refine own_iadd X589 hx hby d13_6 rfl ?_
  show Ends p.tables e below _ (T589.setTop (mkF m 7 #[.val (.ref x), .val (.int (1 : Int32))] [(.int (2 : Int32)), (.ref vp)]))
  refine own_laload X589 hx hby hZ Vc e589 Avp (by decide) rfl d13_7 rfl ?_
  refine own_ret X589 hx hby hret hlk d13_8 (.long Vc) rfl (Or.inr (Or.inl ⟨rfl, rfl, _, rfl⟩)) (by decide) (by decide) ?_
  exact ⟨rfl, rfl, e589⟩
set_option maxRecDepth 65536 in
set_option maxHeartbeats 40000000 in
theorem rmrdc10 (l : Launch) (Z : State) (a0 : Array Value) (hw : ∀ d ∈ tables_1, d.before a0 Z = true) (x : Addr) (h0 : Heap) {cs r0 r1 up vp ho pr re dn : Addr} {kc k0 k1 ku kv : ClassId} {ca cb cc cd Ua Ub Va Vb Vc : Int64} (B : OwnB Z h0 x cs r0 r1 up vp ho pr re dn kc k0 k1 ca cb cc cd) (Aup : Arv Z h0 up ku .long (3 : Int32) [(.long (0 : Int64)), (.long Ua), (.long Ub)] (.long 0)) (Avp : Arv Z h0 vp kv .long (3 : Int32) [(.long Va), (.long Vb), (.long Vc)] (.long 0)) :
    OwnMet l Z (⟨"com/example/weftwork/weftwork/algorithm/Assignment", "reducedCost", "(II)J"⟩ : MethodName) prog_3_method_4_code 3 (some .long) [] ({ frames := 0, cells := 0, slots := 0, locals := 0 } : Room) #[(.ref x), (.int (1 : Int32)), (.int (0 : Int32))] h0 (fun v h L => v = some (.long (cc - Ub - Vb)) ∧ L = [] ∧ h = h0) := by
  refine own_body (plainFor_of_name pn_1) (fun m => ef_rdc10 m x) ?_
  intro p e s m below meth c s₁ X0 hx hby hml hown hnm hret hlk hZ e0
  replace hown : s.vm.findClass "com/example/weftwork/weftwork/algorithm/Assignment" = some m.cls := hown
  replace hml : c.maxLocals = 3 := hml
  show Ends p.tables e below _ (s₁.setTop (mkF m 0 #[.val (.ref x), .val (.int (1 : Int32)), .val (.int (0 : Int32))] []))
  refine own_aloadN X0 hx hby d11_0 rfl rfl rfl ?_
  refine own_getfield X0 hx hby hZ hown (host := "") (Or.inl (hw _ tw_13)) Via.refl e0 (B_costs B) d11_1 rfl (fun T590 X590 e590 => ?_)
  refine own_iloadN X590 hx hby d11_4 rfl rfl ?_
  refine own_aaload X590 hx hby hZ (.ref r1) rfl e590 (B_cs B) (by decide) rfl d11_5 rfl ?_
  refine own_iloadN X590 hx hby d11_6 rfl rfl ?_
  refine own_laload X590 hx hby hZ cc e590 (B_r1 B) (by decide) rfl d11_7 rfl ?_
  refine own_aloadN X590 hx hby d11_8 rfl rfl rfl ?_
  refine own_getfield X590 hx hby hZ hown (host := "") (Or.inl (hw _ tw_15)) Via.refl e590 (B_rowPotential B) d11_9 rfl (fun T591 X591 e591 => ?_)
  refine own_iloadN X591 hx hby d11_12 rfl rfl ?_
  refine own_iconst X591 hx hby d11_13 rfl (1 : Int32) rfl ?_
  refine own_iadd X591 hx hby d11_14 rfl ?_
  show Ends p.tables e below _ (T591.setTop (mkF m 15 #[.val (.ref x), .val (.int (1 : Int32)), .val (.int (0 : Int32))] [(.int (2 : Int32)), (.ref up), (.long cc)]))
  refine own_laload X591 hx hby hZ Ub e591 Aup (by decide) rfl d11_15 rfl ?_
  refine own_lsub X591 hx hby d11_16 rfl ?_
  refine own_aloadN X591 hx hby d11_17 rfl rfl rfl ?_
  refine own_getfield X591 hx hby hZ hown (host := "") (Or.inl (hw _ tw_17)) Via.refl e591 (B_columnPotential B) d11_18 rfl (fun T592 X592 e592 => ?_)
  refine own_iloadN X592 hx hby d11_21 rfl rfl ?_
  refine own_iconst X592 hx hby d11_22 rfl (1 : Int32) rfl ?_
  refine own_iadd X592 hx hby d11_23 rfl ?_
  show Ends p.tables e below _ (T592.setTop (mkF m 24 #[.val (.ref x), .val (.int (1 : Int32)), .val (.int (0 : Int32))] [(.int (1 : Int32)), (.ref vp), (.long (cc - Ub))]))
  refine own_laload X592 hx hby hZ Vb e592 Avp (by decide) rfl d11_24 rfl ?_
  refine own_lsub X592 hx hby d11_25 rfl ?_
  refine own_ret X592 hx hby hret hlk d11_26 (.long ((cc - Ub) - Vb)) rfl (Or.inr (Or.inl ⟨rfl, rfl, _, rfl⟩)) (by decide) (by decide) ?_
  exact ⟨rfl, rfl, e592⟩
set_option maxRecDepth 65536 in
set_option maxHeartbeats 40000000 in
theorem rmrdc11 (l : Launch) (Z : State) (a0 : Array Value) (hw : ∀ d ∈ tables_1, d.before a0 Z = true) (x : Addr) (h0 : Heap) {cs r0 r1 up vp ho pr re dn : Addr} {kc k0 k1 ku kv : ClassId} {ca cb cc cd Ua Ub Va Vb Vc : Int64} (B : OwnB Z h0 x cs r0 r1 up vp ho pr re dn kc k0 k1 ca cb cc cd) (Aup : Arv Z h0 up ku .long (3 : Int32) [(.long (0 : Int64)), (.long Ua), (.long Ub)] (.long 0)) (Avp : Arv Z h0 vp kv .long (3 : Int32) [(.long Va), (.long Vb), (.long Vc)] (.long 0)) :
    OwnMet l Z (⟨"com/example/weftwork/weftwork/algorithm/Assignment", "reducedCost", "(II)J"⟩ : MethodName) prog_3_method_4_code 3 (some .long) [] ({ frames := 0, cells := 0, slots := 0, locals := 0 } : Room) #[(.ref x), (.int (1 : Int32)), (.int (1 : Int32))] h0 (fun v h L => v = some (.long (cd - Ub - Vc)) ∧ L = [] ∧ h = h0) := by
  refine own_body (plainFor_of_name pn_1) (fun m => ef_rdc11 m x) ?_
  intro p e s m below meth c s₁ X0 hx hby hml hown hnm hret hlk hZ e0
  replace hown : s.vm.findClass "com/example/weftwork/weftwork/algorithm/Assignment" = some m.cls := hown
  replace hml : c.maxLocals = 3 := hml
  show Ends p.tables e below _ (s₁.setTop (mkF m 0 #[.val (.ref x), .val (.int (1 : Int32)), .val (.int (1 : Int32))] []))
  refine own_aloadN X0 hx hby d11_0 rfl rfl rfl ?_
  refine own_getfield X0 hx hby hZ hown (host := "") (Or.inl (hw _ tw_13)) Via.refl e0 (B_costs B) d11_1 rfl (fun T593 X593 e593 => ?_)
  refine own_iloadN X593 hx hby d11_4 rfl rfl ?_
  refine own_aaload X593 hx hby hZ (.ref r1) rfl e593 (B_cs B) (by decide) rfl d11_5 rfl ?_
  refine own_iloadN X593 hx hby d11_6 rfl rfl ?_
  refine own_laload X593 hx hby hZ cd e593 (B_r1 B) (by decide) rfl d11_7 rfl ?_
  refine own_aloadN X593 hx hby d11_8 rfl rfl rfl ?_
  refine own_getfield X593 hx hby hZ hown (host := "") (Or.inl (hw _ tw_15)) Via.refl e593 (B_rowPotential B) d11_9 rfl (fun T594 X594 e594 => ?_)
  refine own_iloadN X594 hx hby d11_12 rfl rfl ?_
  refine own_iconst X594 hx hby d11_13 rfl (1 : Int32) rfl ?_
  refine own_iadd X594 hx hby d11_14 rfl ?_
  show Ends p.tables e below _ (T594.setTop (mkF m 15 #[.val (.ref x), .val (.int (1 : Int32)), .val (.int (1 : Int32))] [(.int (2 : Int32)), (.ref up), (.long cd)]))
  refine own_laload X594 hx hby hZ Ub e594 Aup (by decide) rfl d11_15 rfl ?_
  refine own_lsub X594 hx hby d11_16 rfl ?_
  refine own_aloadN X594 hx hby d11_17 rfl rfl rfl ?_
  refine own_getfield X594 hx hby hZ hown (host := "") (Or.inl (hw _ tw_17)) Via.refl e594 (B_columnPotential B) d11_18 rfl (fun T595 X595 e595 => ?_)
  refine own_iloadN X595 hx hby d11_21 rfl rfl ?_
  refine own_iconst X595 hx hby d11_22 rfl (1 : Int32) rfl ?_
  refine own_iadd X595 hx hby d11_23 rfl ?_
  show Ends p.tables e below _ (T595.setTop (mkF m 24 #[.val (.ref x), .val (.int (1 : Int32)), .val (.int (1 : Int32))] [(.int (2 : Int32)), (.ref vp), (.long (cd - Ub))]))
  refine own_laload X595 hx hby hZ Vc e595 Avp (by decide) rfl d11_24 rfl ?_
  refine own_lsub X595 hx hby d11_25 rfl ?_
  refine own_ret X595 hx hby hret hlk d11_26 (.long ((cd - Ub) - Vc)) rfl (Or.inr (Or.inl ⟨rfl, rfl, _, rfl⟩)) (by decide) (by decide) ?_
  exact ⟨rfl, rfl, e595⟩
set_option maxRecDepth 65536 in
set_option maxHeartbeats 40000000 in
theorem rm10 (l : Launch) (Z : State) (a0 : Array Value) (hw : ∀ d ∈ tables_1, d.before a0 Z = true) (x0 : Int64) (x1 : Int64) (h0 : Heap) :
    OwnMet l Z (⟨"java/lang/Math", "min", "(JJ)J"⟩ : MethodName) jdk_29_method_70_code 4 (some .long) [] ({ frames := 0, cells := 0, slots := 0, locals := 0 } : Room) #[(.long x0), (.long x1)] h0 (fun v h L => ∃ r : Int64, v = some (.long r) ∧ L = [] ∧ h = h0 ∧ r.toInt ≤ x0.toInt ∧ r.toInt ≤ x1.toInt ∧ (r.toInt = x0.toInt ∨ r.toInt = x1.toInt)) := by
  refine own_body (Jvm.Free.JP.mathPlain rfl (by decide +kernel)) (fun m => ef_10 m x0 x1) ?_
  intro p e s m below meth c s₁ X0 hx hby hml hown hnm hret hlk hZ e0
  replace hown : s.vm.findClass "java/lang/Math" = some m.cls := hown
  replace hml : c.maxLocals = 4 := hml
  show Ends p.tables e below _ (s₁.setTop (mkF m 0 #[.val (.long x0), .second, .val (.long x1), .second] []))
  refine own_lloadN X0 hx hby d10_0 rfl rfl ?_
  refine own_lloadN X0 hx hby d10_1 rfl rfl ?_
  refine own_lcmp_gt X0 hx hby d10_2 d10_3 (pcY := 10) (pcN := 6) (by decide) rfl (fun (hc596 : x1.toInt < x0.toInt) => ?_) (fun (hc596 : x0.toInt ≤ x1.toInt) => ?_)
  · -- pc 2: t
    refine own_lloadN X0 hx hby d10_10 rfl rfl ?_
    refine own_ret X0 hx hby hret hlk d10_11 (.long x1) rfl (Or.inr (Or.inl ⟨rfl, rfl, _, rfl⟩)) (by decide) (by decide) ?_
    exact ⟨_, rfl, rfl, e0, by omega, by omega, by omega⟩
  · -- pc 2: f
    refine own_lloadN X0 hx hby d10_6 rfl rfl ?_
    refine own_goto X0 hx hby d10_7 (pc' := 11) (by decide) ?_
    refine own_ret X0 hx hby hret hlk d10_11 (.long x0) rfl (Or.inr (Or.inl ⟨rfl, rfl, _, rfl⟩)) (by decide) (by decide) ?_
    exact ⟨_, rfl, rfl, e0, by omega, by omega, by omega⟩
set_option maxRecDepth 65536 in
set_option maxHeartbeats 40000000 in
theorem rm0 (l : Launch) (Z : State) (a0 : Array Value) (hw : ∀ d ∈ tables_1, d.before a0 Z = true) (x0 : Int64) (x1 : Int64) (x2 : Int64) (x3 : Int64) (x4 : Int32) (x5 : Int32) (h0 : Heap) (n0 : Nat) (O : Old Z n0 h0) :
    OwnMet l Z x code maxLocals ret tables_1 room_1 #[(.long x0), (.long x1), (.long x2), (.long x3), (.int x4), (.int x5)] h0 (fun v h L => v = some (.int 1) ∧ Fr n0 L) := by
  refine own_body (plainFor_of_name pn_2) (fun m => ef_0 m x0 x1 x2 x3 x4 x5) ?_
  intro p e s m below meth c s₁ X0 hx hby hml hown hnm hret hlk hZ e0
  replace hown : s.vm.findClass "com/example/weftwork/weftwork/algorithm/AssignmentReducedCostPinLaw" = some m.cls := hown
  replace hml : c.maxLocals = 50 := hml
  have N0 := Fr.nil n0
  show Ends p.tables e below _ (s₁.setTop (mkF m 0 #[.val (.long x0), .second, .val (.long x1), .second, .val (.long x2), .second, .val (.long x3), .second, .val (.int x4), .val (.int x5), .unset, .unset, .unset, .unset, .unset, .unset, .unset, .unset, .unset, .unset, .unset, .unset, .unset, .unset, .unset, .unset, .unset, .unset, .unset, .unset, .unset, .unset, .unset, .unset, .unset, .unset, .unset, .unset, .unset, .unset, .unset, .unset, .unset, .unset, .unset, .unset, .unset, .unset, .unset, .unset] []))
  have k0 : (0 : Int64).toInt = 0 := rfl
  have kN := own_iN
  have i0 : (0 : Int32).toInt = 0 := rfl
  have i1 : (1 : Int32).toInt = 1 := rfl
  have i2 : (2 : Int32).toInt = 2 := rfl
  have i3 : (3 : Int32).toInt = 3 := rfl
  have kf := c_mask x4 (3 : Int32) 2 (by decide) (by decide)
  have hm0 := c_maskL x0 (1152921504606846975 : Int64) 60 (by decide) (by decide)
  have hc0 : 0 ≤ (x0 &&& (1152921504606846975 : Int64)).toInt ∧ (x0 &&& (1152921504606846975 : Int64)).toInt < 1152921504606846976 := by omega
  have hm1 := c_maskL x1 (1152921504606846975 : Int64) 60 (by decide) (by decide)
  have hc1 : 0 ≤ (x1 &&& (1152921504606846975 : Int64)).toInt ∧ (x1 &&& (1152921504606846975 : Int64)).toInt < 1152921504606846976 := by omega
  have hm2 := c_maskL x2 (1152921504606846975 : Int64) 60 (by decide) (by decide)
  have hc2 : 0 ≤ (x2 &&& (1152921504606846975 : Int64)).toInt ∧ (x2 &&& (1152921504606846975 : Int64)).toInt < 1152921504606846976 := by omega
  have hm3 := c_maskL x3 (1152921504606846975 : Int64) 60 (by decide) (by decide)
  have hc3 : 0 ≤ (x3 &&& (1152921504606846975 : Int64)).toInt ∧ (x3 &&& (1152921504606846975 : Int64)).toInt < 1152921504606846976 := by omega
  have hD := own_addd (u := (x0 &&& (1152921504606846975 : Int64))) (d := (x3 &&& (1152921504606846975 : Int64))) (by omega) (by omega)
  have hA := own_addd (u := (x1 &&& (1152921504606846975 : Int64))) (d := (x2 &&& (1152921504606846975 : Int64))) (by omega) (by omega)
  show Ends p.tables e below _ (s₁.setTop (mkF m 0 #[.val (.long x0), .second, .val (.long x1), .second, .val (.long x2), .second, .val (.long x3), .second, .val (.int x4), .val (.int x5), .unset, .unset, .unset, .unset, .unset, .unset, .unset, .unset, .unset, .unset, .unset, .unset, .unset, .unset, .unset, .unset, .unset, .unset, .unset, .unset, .unset, .unset, .unset, .unset, .unset, .unset, .unset, .unset, .unset, .unset, .unset, .unset, .unset, .unset, .unset, .unset, .unset, .unset, .unset, .unset] []))
  refine own_lloadN X0 hx hby at_0 rfl rfl ?_
  refine own_ldc2J X0 hx hby hZ hown (hw _ tw_0) at_1 rfl ?_
  refine own_land X0 hx hby at_4 rfl ?_
  refine own_lstore X0 hx hby at_5 rfl #[.val (.long x0), .second, .val (.long x1), .second, .val (.long x2), .second, .val (.long x3), .second, .val (.int x4), .val (.int x5), .val (.long (x0 &&& (1152921504606846975 : Int64))), .second, .unset, .unset, .unset, .unset, .unset, .unset, .unset, .unset, .unset, .unset, .unset, .unset, .unset, .unset, .unset, .unset, .unset, .unset, .unset, .unset, .unset, .unset, .unset, .unset, .unset, .unset, .unset, .unset, .unset, .unset, .unset, .unset, .unset, .unset, .unset, .unset, .unset, .unset] rfl ?_
  refine own_lloadN X0 hx hby at_7 rfl rfl ?_
  refine own_ldc2J X0 hx hby hZ hown (hw _ tw_0) at_8 rfl ?_
  refine own_land X0 hx hby at_11 rfl ?_
  refine own_lstore X0 hx hby at_12 rfl #[.val (.long x0), .second, .val (.long x1), .second, .val (.long x2), .second, .val (.long x3), .second, .val (.int x4), .val (.int x5), .val (.long (x0 &&& (1152921504606846975 : Int64))), .second, .val (.long (x1 &&& (1152921504606846975 : Int64))), .second, .unset, .unset, .unset, .unset, .unset, .unset, .unset, .unset, .unset, .unset, .unset, .unset, .unset, .unset, .unset, .unset, .unset, .unset, .unset, .unset, .unset, .unset, .unset, .unset, .unset, .unset, .unset, .unset, .unset, .unset, .unset, .unset, .unset, .unset, .unset, .unset] rfl ?_
  refine own_lload X0 hx hby at_14 rfl rfl ?_
  refine own_ldc2J X0 hx hby hZ hown (hw _ tw_0) at_16 rfl ?_
  refine own_land X0 hx hby at_19 rfl ?_
  refine own_lstore X0 hx hby at_20 rfl #[.val (.long x0), .second, .val (.long x1), .second, .val (.long x2), .second, .val (.long x3), .second, .val (.int x4), .val (.int x5), .val (.long (x0 &&& (1152921504606846975 : Int64))), .second, .val (.long (x1 &&& (1152921504606846975 : Int64))), .second, .val (.long (x2 &&& (1152921504606846975 : Int64))), .second, .unset, .unset, .unset, .unset, .unset, .unset, .unset, .unset, .unset, .unset, .unset, .unset, .unset, .unset, .unset, .unset, .unset, .unset, .unset, .unset, .unset, .unset, .unset, .unset, .unset, .unset, .unset, .unset, .unset, .unset, .unset, .unset, .unset, .unset] rfl ?_
  refine own_lload X0 hx hby at_22 rfl rfl ?_
  refine own_ldc2J X0 hx hby hZ hown (hw _ tw_0) at_24 rfl ?_
  refine own_land X0 hx hby at_27 rfl ?_
  refine own_lstore X0 hx hby at_28 rfl #[.val (.long x0), .second, .val (.long x1), .second, .val (.long x2), .second, .val (.long x3), .second, .val (.int x4), .val (.int x5), .val (.long (x0 &&& (1152921504606846975 : Int64))), .second, .val (.long (x1 &&& (1152921504606846975 : Int64))), .second, .val (.long (x2 &&& (1152921504606846975 : Int64))), .second, .val (.long (x3 &&& (1152921504606846975 : Int64))), .second, .unset, .unset, .unset, .unset, .unset, .unset, .unset, .unset, .unset, .unset, .unset, .unset, .unset, .unset, .unset, .unset, .unset, .unset, .unset, .unset, .unset, .unset, .unset, .unset, .unset, .unset, .unset, .unset, .unset, .unset, .unset, .unset] rfl ?_
  refine own_joinT X0 e0 (fun z597 : Int32 => z597.toInt = 0 ∨ z597.toInt = 1) (fun z597 => (mkF m 44 #[.val (.long x0), .second, .val (.long x1), .second, .val (.long x2), .second, .val (.long x3), .second, .val (.int x4), .val (.int x5), .val (.long (x0 &&& (1152921504606846975 : Int64))), .second, .val (.long (x1 &&& (1152921504606846975 : Int64))), .second, .val (.long (x2 &&& (1152921504606846975 : Int64))), .second, .val (.long (x3 &&& (1152921504606846975 : Int64))), .second, .val (.int z597), .unset, .unset, .unset, .unset, .unset, .unset, .unset, .unset, .unset, .unset, .unset, .unset, .unset, .unset, .unset, .unset, .unset, .unset, .unset, .unset, .unset, .unset, .unset, .unset, .unset, .unset, .unset, .unset, .unset, .unset, .unset] [])) (fun J597 => ?_) (fun T597 z597 X597 e597 q597 => ?_)
  · -- to pc 44
    refine own_iload X0 hx hby at_30 rfl rfl ?_
    refine own_iconst X0 hx hby at_32 rfl (4 : Int32) rfl ?_
    refine own_iand X0 hx hby at_33 rfl ?_
    refine own_if_eq X0 hx hby at_34 (pcY := 41) (pcN := 37) (by decide) rfl (fun (hc598 : (x4 &&& (4 : Int32)) = (0 : Int32)) => ?_) (fun (hc598 : ¬ (x4 &&& (4 : Int32)) = (0 : Int32)) => ?_)
    · -- pc 34: t
      have thc598 := congrArg Int32.toInt hc598
      refine own_iconst X0 hx hby at_41 rfl (0 : Int32) rfl ?_
      refine own_istore X0 hx hby at_42 rfl #[.val (.long x0), .second, .val (.long x1), .second, .val (.long x2), .second, .val (.long x3), .second, .val (.int x4), .val (.int x5), .val (.long (x0 &&& (1152921504606846975 : Int64))), .second, .val (.long (x1 &&& (1152921504606846975 : Int64))), .second, .val (.long (x2 &&& (1152921504606846975 : Int64))), .second, .val (.long (x3 &&& (1152921504606846975 : Int64))), .second, .val (.int (0 : Int32)), .unset, .unset, .unset, .unset, .unset, .unset, .unset, .unset, .unset, .unset, .unset, .unset, .unset, .unset, .unset, .unset, .unset, .unset, .unset, .unset, .unset, .unset, .unset, .unset, .unset, .unset, .unset, .unset, .unset, .unset, .unset] rfl ?_
      exact J597 s₁ (0 : Int32) X0 e0 (Or.inl rfl)
    · -- pc 34: f
      have thc598 := own_nti hc598
      refine own_iconst X0 hx hby at_37 rfl (1 : Int32) rfl ?_
      refine own_goto X0 hx hby at_38 (pc' := 42) (by decide) ?_
      refine own_istore X0 hx hby at_42 rfl #[.val (.long x0), .second, .val (.long x1), .second, .val (.long x2), .second, .val (.long x3), .second, .val (.int x4), .val (.int x5), .val (.long (x0 &&& (1152921504606846975 : Int64))), .second, .val (.long (x1 &&& (1152921504606846975 : Int64))), .second, .val (.long (x2 &&& (1152921504606846975 : Int64))), .second, .val (.long (x3 &&& (1152921504606846975 : Int64))), .second, .val (.int (1 : Int32)), .unset, .unset, .unset, .unset, .unset, .unset, .unset, .unset, .unset, .unset, .unset, .unset, .unset, .unset, .unset, .unset, .unset, .unset, .unset, .unset, .unset, .unset, .unset, .unset, .unset, .unset, .unset, .unset, .unset, .unset, .unset] rfl ?_
      exact J597 s₁ (1 : Int32) X0 e0 (Or.inr rfl)
  show Ends p.tables e below _ (T597.setTop (mkF m 44 #[.val (.long x0), .second, .val (.long x1), .second, .val (.long x2), .second, .val (.long x3), .second, .val (.int x4), .val (.int x5), .val (.long (x0 &&& (1152921504606846975 : Int64))), .second, .val (.long (x1 &&& (1152921504606846975 : Int64))), .second, .val (.long (x2 &&& (1152921504606846975 : Int64))), .second, .val (.long (x3 &&& (1152921504606846975 : Int64))), .second, .val (.int z597), .unset, .unset, .unset, .unset, .unset, .unset, .unset, .unset, .unset, .unset, .unset, .unset, .unset, .unset, .unset, .unset, .unset, .unset, .unset, .unset, .unset, .unset, .unset, .unset, .unset, .unset, .unset, .unset, .unset, .unset, .unset] []))
  refine own_iload X597 hx hby at_44 rfl rfl ?_
  refine own_iconst X597 hx hby at_46 rfl (3 : Int32) rfl ?_
  refine own_iand X597 hx hby at_47 rfl ?_
  refine own_istore X597 hx hby at_48 rfl #[.val (.long x0), .second, .val (.long x1), .second, .val (.long x2), .second, .val (.long x3), .second, .val (.int x4), .val (.int x5), .val (.long (x0 &&& (1152921504606846975 : Int64))), .second, .val (.long (x1 &&& (1152921504606846975 : Int64))), .second, .val (.long (x2 &&& (1152921504606846975 : Int64))), .second, .val (.long (x3 &&& (1152921504606846975 : Int64))), .second, .val (.int z597), .val (.int (x4 &&& (3 : Int32))), .unset, .unset, .unset, .unset, .unset, .unset, .unset, .unset, .unset, .unset, .unset, .unset, .unset, .unset, .unset, .unset, .unset, .unset, .unset, .unset, .unset, .unset, .unset, .unset, .unset, .unset, .unset, .unset, .unset, .unset] rfl ?_
  refine own_joinT X597 e597 (fun z599 : Int32 => z599.toInt = 1 ∨ (z599.toInt = 0 ∧ (x4 &&& (3 : Int32)).toInt = 0)) (fun z599 => (mkF m 67 #[.val (.long x0), .second, .val (.long x1), .second, .val (.long x2), .second, .val (.long x3), .second, .val (.int x4), .val (.int x5), .val (.long (x0 &&& (1152921504606846975 : Int64))), .second, .val (.long (x1 &&& (1152921504606846975 : Int64))), .second, .val (.long (x2 &&& (1152921504606846975 : Int64))), .second, .val (.long (x3 &&& (1152921504606846975 : Int64))), .second, .val (.int z597), .val (.int (x4 &&& (3 : Int32))), .val (.int z599), .unset, .unset, .unset, .unset, .unset, .unset, .unset, .unset, .unset, .unset, .unset, .unset, .unset, .unset, .unset, .unset, .unset, .unset, .unset, .unset, .unset, .unset, .unset, .unset, .unset, .unset, .unset, .unset, .unset] [])) (fun J599 => ?_) (fun T599 z599 X599 e599 q599 => ?_)
  · -- to pc 67
    refine own_iload X597 hx hby at_50 rfl rfl ?_
    refine own_if_eq X597 hx hby at_52 (pcY := 60) (pcN := 55) (by decide) rfl (fun (hc600 : z597 = (0 : Int32)) => ?_) (fun (hc600 : ¬ z597 = (0 : Int32)) => ?_)
    · -- pc 52: t
      have thc600 := congrArg Int32.toInt hc600
      refine own_iconst X597 hx hby at_60 rfl (1 : Int32) rfl ?_
      refine own_goto X597 hx hby at_61 (pc' := 65) (by decide) ?_
      refine own_istore X597 hx hby at_65 rfl #[.val (.long x0), .second, .val (.long x1), .second, .val (.long x2), .second, .val (.long x3), .second, .val (.int x4), .val (.int x5), .val (.long (x0 &&& (1152921504606846975 : Int64))), .second, .val (.long (x1 &&& (1152921504606846975 : Int64))), .second, .val (.long (x2 &&& (1152921504606846975 : Int64))), .second, .val (.long (x3 &&& (1152921504606846975 : Int64))), .second, .val (.int z597), .val (.int (x4 &&& (3 : Int32))), .val (.int (1 : Int32)), .unset, .unset, .unset, .unset, .unset, .unset, .unset, .unset, .unset, .unset, .unset, .unset, .unset, .unset, .unset, .unset, .unset, .unset, .unset, .unset, .unset, .unset, .unset, .unset, .unset, .unset, .unset, .unset, .unset] rfl ?_
      exact J599 T597 (1 : Int32) X597 e597 (Or.inl rfl)
    · -- pc 52: f
      have thc600 := own_nti hc600
      refine own_iload X597 hx hby at_55 rfl rfl ?_
      refine own_if_eq X597 hx hby at_57 (pcY := 64) (pcN := 60) (by decide) rfl (fun (hc601 : (x4 &&& (3 : Int32)) = (0 : Int32)) => ?_) (fun (hc601 : ¬ (x4 &&& (3 : Int32)) = (0 : Int32)) => ?_)
      · -- pc 57: t
        have thc601 := congrArg Int32.toInt hc601
        refine own_iconst X597 hx hby at_64 rfl (0 : Int32) rfl ?_
        refine own_istore X597 hx hby at_65 rfl #[.val (.long x0), .second, .val (.long x1), .second, .val (.long x2), .second, .val (.long x3), .second, .val (.int x4), .val (.int x5), .val (.long (x0 &&& (1152921504606846975 : Int64))), .second, .val (.long (x1 &&& (1152921504606846975 : Int64))), .second, .val (.long (x2 &&& (1152921504606846975 : Int64))), .second, .val (.long (x3 &&& (1152921504606846975 : Int64))), .second, .val (.int z597), .val (.int (x4 &&& (3 : Int32))), .val (.int (0 : Int32)), .unset, .unset, .unset, .unset, .unset, .unset, .unset, .unset, .unset, .unset, .unset, .unset, .unset, .unset, .unset, .unset, .unset, .unset, .unset, .unset, .unset, .unset, .unset, .unset, .unset, .unset, .unset, .unset, .unset] rfl ?_
        exact J599 T597 (0 : Int32) X597 e597 (Or.inr ⟨rfl, thc601⟩)
      · -- pc 57: f
        have thc601 := own_nti hc601
        refine own_iconst X597 hx hby at_60 rfl (1 : Int32) rfl ?_
        refine own_goto X597 hx hby at_61 (pc' := 65) (by decide) ?_
        refine own_istore X597 hx hby at_65 rfl #[.val (.long x0), .second, .val (.long x1), .second, .val (.long x2), .second, .val (.long x3), .second, .val (.int x4), .val (.int x5), .val (.long (x0 &&& (1152921504606846975 : Int64))), .second, .val (.long (x1 &&& (1152921504606846975 : Int64))), .second, .val (.long (x2 &&& (1152921504606846975 : Int64))), .second, .val (.long (x3 &&& (1152921504606846975 : Int64))), .second, .val (.int z597), .val (.int (x4 &&& (3 : Int32))), .val (.int (1 : Int32)), .unset, .unset, .unset, .unset, .unset, .unset, .unset, .unset, .unset, .unset, .unset, .unset, .unset, .unset, .unset, .unset, .unset, .unset, .unset, .unset, .unset, .unset, .unset, .unset, .unset, .unset, .unset, .unset, .unset] rfl ?_
        exact J599 T597 (1 : Int32) X597 e597 (Or.inl rfl)
  show Ends p.tables e below _ (T599.setTop (mkF m 67 #[.val (.long x0), .second, .val (.long x1), .second, .val (.long x2), .second, .val (.long x3), .second, .val (.int x4), .val (.int x5), .val (.long (x0 &&& (1152921504606846975 : Int64))), .second, .val (.long (x1 &&& (1152921504606846975 : Int64))), .second, .val (.long (x2 &&& (1152921504606846975 : Int64))), .second, .val (.long (x3 &&& (1152921504606846975 : Int64))), .second, .val (.int z597), .val (.int (x4 &&& (3 : Int32))), .val (.int z599), .unset, .unset, .unset, .unset, .unset, .unset, .unset, .unset, .unset, .unset, .unset, .unset, .unset, .unset, .unset, .unset, .unset, .unset, .unset, .unset, .unset, .unset, .unset, .unset, .unset, .unset, .unset, .unset, .unset] []))
  refine own_joinT X599 e599 (fun z602 : Int32 => z602.toInt = 1 ∨ (z602.toInt = 0 ∧ (x4 &&& (3 : Int32)).toInt = 1)) (fun z602 => (mkF m 85 #[.val (.long x0), .second, .val (.long x1), .second, .val (.long x2), .second, .val (.long x3), .second, .val (.int x4), .val (.int x5), .val (.long (x0 &&& (1152921504606846975 : Int64))), .second, .val (.long (x1 &&& (1152921504606846975 : Int64))), .second, .val (.long (x2 &&& (1152921504606846975 : Int64))), .second, .val (.long (x3 &&& (1152921504606846975 : Int64))), .second, .val (.int z597), .val (.int (x4 &&& (3 : Int32))), .val (.int z599), .val (.int z602), .unset, .unset, .unset, .unset, .unset, .unset, .unset, .unset, .unset, .unset, .unset, .unset, .unset, .unset, .unset, .unset, .unset, .unset, .unset, .unset, .unset, .unset, .unset, .unset, .unset, .unset, .unset, .unset] [])) (fun J602 => ?_) (fun T602 z602 X602 e602 q602 => ?_)
  · -- to pc 85
    refine own_iload X599 hx hby at_67 rfl rfl ?_
    refine own_if_eq X599 hx hby at_69 (pcY := 78) (pcN := 72) (by decide) rfl (fun (hc603 : z597 = (0 : Int32)) => ?_) (fun (hc603 : ¬ z597 = (0 : Int32)) => ?_)
    · -- pc 69: t
      have thc603 := congrArg Int32.toInt hc603
      refine own_iconst X599 hx hby at_78 rfl (1 : Int32) rfl ?_
      refine own_goto X599 hx hby at_79 (pc' := 83) (by decide) ?_
      refine own_istore X599 hx hby at_83 rfl #[.val (.long x0), .second, .val (.long x1), .second, .val (.long x2), .second, .val (.long x3), .second, .val (.int x4), .val (.int x5), .val (.long (x0 &&& (1152921504606846975 : Int64))), .second, .val (.long (x1 &&& (1152921504606846975 : Int64))), .second, .val (.long (x2 &&& (1152921504606846975 : Int64))), .second, .val (.long (x3 &&& (1152921504606846975 : Int64))), .second, .val (.int z597), .val (.int (x4 &&& (3 : Int32))), .val (.int z599), .val (.int (1 : Int32)), .unset, .unset, .unset, .unset, .unset, .unset, .unset, .unset, .unset, .unset, .unset, .unset, .unset, .unset, .unset, .unset, .unset, .unset, .unset, .unset, .unset, .unset, .unset, .unset, .unset, .unset, .unset, .unset] rfl ?_
      exact J602 T599 (1 : Int32) X599 e599 (Or.inl rfl)
    · -- pc 69: f
      have thc603 := own_nti hc603
      refine own_iload X599 hx hby at_72 rfl rfl ?_
      refine own_iconst X599 hx hby at_74 rfl (1 : Int32) rfl ?_
      refine own_icmp_eq X599 hx hby at_75 (pcY := 82) (pcN := 78) (by decide) rfl (fun (hc604 : (x4 &&& (3 : Int32)) = (1 : Int32)) => ?_) (fun (hc604 : ¬ (x4 &&& (3 : Int32)) = (1 : Int32)) => ?_)
      · -- pc 75: t
        have thc604 := congrArg Int32.toInt hc604
        refine own_iconst X599 hx hby at_82 rfl (0 : Int32) rfl ?_
        refine own_istore X599 hx hby at_83 rfl #[.val (.long x0), .second, .val (.long x1), .second, .val (.long x2), .second, .val (.long x3), .second, .val (.int x4), .val (.int x5), .val (.long (x0 &&& (1152921504606846975 : Int64))), .second, .val (.long (x1 &&& (1152921504606846975 : Int64))), .second, .val (.long (x2 &&& (1152921504606846975 : Int64))), .second, .val (.long (x3 &&& (1152921504606846975 : Int64))), .second, .val (.int z597), .val (.int (x4 &&& (3 : Int32))), .val (.int z599), .val (.int (0 : Int32)), .unset, .unset, .unset, .unset, .unset, .unset, .unset, .unset, .unset, .unset, .unset, .unset, .unset, .unset, .unset, .unset, .unset, .unset, .unset, .unset, .unset, .unset, .unset, .unset, .unset, .unset, .unset, .unset] rfl ?_
        exact J602 T599 (0 : Int32) X599 e599 (Or.inr ⟨rfl, thc604⟩)
      · -- pc 75: f
        have thc604 := own_nti hc604
        refine own_iconst X599 hx hby at_78 rfl (1 : Int32) rfl ?_
        refine own_goto X599 hx hby at_79 (pc' := 83) (by decide) ?_
        refine own_istore X599 hx hby at_83 rfl #[.val (.long x0), .second, .val (.long x1), .second, .val (.long x2), .second, .val (.long x3), .second, .val (.int x4), .val (.int x5), .val (.long (x0 &&& (1152921504606846975 : Int64))), .second, .val (.long (x1 &&& (1152921504606846975 : Int64))), .second, .val (.long (x2 &&& (1152921504606846975 : Int64))), .second, .val (.long (x3 &&& (1152921504606846975 : Int64))), .second, .val (.int z597), .val (.int (x4 &&& (3 : Int32))), .val (.int z599), .val (.int (1 : Int32)), .unset, .unset, .unset, .unset, .unset, .unset, .unset, .unset, .unset, .unset, .unset, .unset, .unset, .unset, .unset, .unset, .unset, .unset, .unset, .unset, .unset, .unset, .unset, .unset, .unset, .unset, .unset, .unset] rfl ?_
        exact J602 T599 (1 : Int32) X599 e599 (Or.inl rfl)
  show Ends p.tables e below _ (T602.setTop (mkF m 85 #[.val (.long x0), .second, .val (.long x1), .second, .val (.long x2), .second, .val (.long x3), .second, .val (.int x4), .val (.int x5), .val (.long (x0 &&& (1152921504606846975 : Int64))), .second, .val (.long (x1 &&& (1152921504606846975 : Int64))), .second, .val (.long (x2 &&& (1152921504606846975 : Int64))), .second, .val (.long (x3 &&& (1152921504606846975 : Int64))), .second, .val (.int z597), .val (.int (x4 &&& (3 : Int32))), .val (.int z599), .val (.int z602), .unset, .unset, .unset, .unset, .unset, .unset, .unset, .unset, .unset, .unset, .unset, .unset, .unset, .unset, .unset, .unset, .unset, .unset, .unset, .unset, .unset, .unset, .unset, .unset, .unset, .unset, .unset, .unset] []))
  refine own_joinT X602 e602 (fun z605 : Int32 => z605.toInt = 1 ∨ (z605.toInt = 0 ∧ (x4 &&& (3 : Int32)).toInt = 2)) (fun z605 => (mkF m 103 #[.val (.long x0), .second, .val (.long x1), .second, .val (.long x2), .second, .val (.long x3), .second, .val (.int x4), .val (.int x5), .val (.long (x0 &&& (1152921504606846975 : Int64))), .second, .val (.long (x1 &&& (1152921504606846975 : Int64))), .second, .val (.long (x2 &&& (1152921504606846975 : Int64))), .second, .val (.long (x3 &&& (1152921504606846975 : Int64))), .second, .val (.int z597), .val (.int (x4 &&& (3 : Int32))), .val (.int z599), .val (.int z602), .val (.int z605), .unset, .unset, .unset, .unset, .unset, .unset, .unset, .unset, .unset, .unset, .unset, .unset, .unset, .unset, .unset, .unset, .unset, .unset, .unset, .unset, .unset, .unset, .unset, .unset, .unset, .unset, .unset] [])) (fun J605 => ?_) (fun T605 z605 X605 e605 q605 => ?_)
  · -- to pc 103
    refine own_iload X602 hx hby at_85 rfl rfl ?_
    refine own_if_eq X602 hx hby at_87 (pcY := 96) (pcN := 90) (by decide) rfl (fun (hc606 : z597 = (0 : Int32)) => ?_) (fun (hc606 : ¬ z597 = (0 : Int32)) => ?_)
    · -- pc 87: t
      have thc606 := congrArg Int32.toInt hc606
      refine own_iconst X602 hx hby at_96 rfl (1 : Int32) rfl ?_
      refine own_goto X602 hx hby at_97 (pc' := 101) (by decide) ?_
      refine own_istore X602 hx hby at_101 rfl #[.val (.long x0), .second, .val (.long x1), .second, .val (.long x2), .second, .val (.long x3), .second, .val (.int x4), .val (.int x5), .val (.long (x0 &&& (1152921504606846975 : Int64))), .second, .val (.long (x1 &&& (1152921504606846975 : Int64))), .second, .val (.long (x2 &&& (1152921504606846975 : Int64))), .second, .val (.long (x3 &&& (1152921504606846975 : Int64))), .second, .val (.int z597), .val (.int (x4 &&& (3 : Int32))), .val (.int z599), .val (.int z602), .val (.int (1 : Int32)), .unset, .unset, .unset, .unset, .unset, .unset, .unset, .unset, .unset, .unset, .unset, .unset, .unset, .unset, .unset, .unset, .unset, .unset, .unset, .unset, .unset, .unset, .unset, .unset, .unset, .unset, .unset] rfl ?_
      exact J605 T602 (1 : Int32) X602 e602 (Or.inl rfl)
    · -- pc 87: f
      have thc606 := own_nti hc606
      refine own_iload X602 hx hby at_90 rfl rfl ?_
      refine own_iconst X602 hx hby at_92 rfl (2 : Int32) rfl ?_
      refine own_icmp_eq X602 hx hby at_93 (pcY := 100) (pcN := 96) (by decide) rfl (fun (hc607 : (x4 &&& (3 : Int32)) = (2 : Int32)) => ?_) (fun (hc607 : ¬ (x4 &&& (3 : Int32)) = (2 : Int32)) => ?_)
      · -- pc 93: t
        have thc607 := congrArg Int32.toInt hc607
        refine own_iconst X602 hx hby at_100 rfl (0 : Int32) rfl ?_
        refine own_istore X602 hx hby at_101 rfl #[.val (.long x0), .second, .val (.long x1), .second, .val (.long x2), .second, .val (.long x3), .second, .val (.int x4), .val (.int x5), .val (.long (x0 &&& (1152921504606846975 : Int64))), .second, .val (.long (x1 &&& (1152921504606846975 : Int64))), .second, .val (.long (x2 &&& (1152921504606846975 : Int64))), .second, .val (.long (x3 &&& (1152921504606846975 : Int64))), .second, .val (.int z597), .val (.int (x4 &&& (3 : Int32))), .val (.int z599), .val (.int z602), .val (.int (0 : Int32)), .unset, .unset, .unset, .unset, .unset, .unset, .unset, .unset, .unset, .unset, .unset, .unset, .unset, .unset, .unset, .unset, .unset, .unset, .unset, .unset, .unset, .unset, .unset, .unset, .unset, .unset, .unset] rfl ?_
        exact J605 T602 (0 : Int32) X602 e602 (Or.inr ⟨rfl, thc607⟩)
      · -- pc 93: f
        have thc607 := own_nti hc607
        refine own_iconst X602 hx hby at_96 rfl (1 : Int32) rfl ?_
        refine own_goto X602 hx hby at_97 (pc' := 101) (by decide) ?_
        refine own_istore X602 hx hby at_101 rfl #[.val (.long x0), .second, .val (.long x1), .second, .val (.long x2), .second, .val (.long x3), .second, .val (.int x4), .val (.int x5), .val (.long (x0 &&& (1152921504606846975 : Int64))), .second, .val (.long (x1 &&& (1152921504606846975 : Int64))), .second, .val (.long (x2 &&& (1152921504606846975 : Int64))), .second, .val (.long (x3 &&& (1152921504606846975 : Int64))), .second, .val (.int z597), .val (.int (x4 &&& (3 : Int32))), .val (.int z599), .val (.int z602), .val (.int (1 : Int32)), .unset, .unset, .unset, .unset, .unset, .unset, .unset, .unset, .unset, .unset, .unset, .unset, .unset, .unset, .unset, .unset, .unset, .unset, .unset, .unset, .unset, .unset, .unset, .unset, .unset, .unset, .unset] rfl ?_
        exact J605 T602 (1 : Int32) X602 e602 (Or.inl rfl)
  show Ends p.tables e below _ (T605.setTop (mkF m 103 #[.val (.long x0), .second, .val (.long x1), .second, .val (.long x2), .second, .val (.long x3), .second, .val (.int x4), .val (.int x5), .val (.long (x0 &&& (1152921504606846975 : Int64))), .second, .val (.long (x1 &&& (1152921504606846975 : Int64))), .second, .val (.long (x2 &&& (1152921504606846975 : Int64))), .second, .val (.long (x3 &&& (1152921504606846975 : Int64))), .second, .val (.int z597), .val (.int (x4 &&& (3 : Int32))), .val (.int z599), .val (.int z602), .val (.int z605), .unset, .unset, .unset, .unset, .unset, .unset, .unset, .unset, .unset, .unset, .unset, .unset, .unset, .unset, .unset, .unset, .unset, .unset, .unset, .unset, .unset, .unset, .unset, .unset, .unset, .unset, .unset] []))
  refine own_joinT X605 e605 (fun z608 : Int32 => z608.toInt = 1 ∨ (z608.toInt = 0 ∧ (x4 &&& (3 : Int32)).toInt = 3)) (fun z608 => (mkF m 121 #[.val (.long x0), .second, .val (.long x1), .second, .val (.long x2), .second, .val (.long x3), .second, .val (.int x4), .val (.int x5), .val (.long (x0 &&& (1152921504606846975 : Int64))), .second, .val (.long (x1 &&& (1152921504606846975 : Int64))), .second, .val (.long (x2 &&& (1152921504606846975 : Int64))), .second, .val (.long (x3 &&& (1152921504606846975 : Int64))), .second, .val (.int z597), .val (.int (x4 &&& (3 : Int32))), .val (.int z599), .val (.int z602), .val (.int z605), .val (.int z608), .unset, .unset, .unset, .unset, .unset, .unset, .unset, .unset, .unset, .unset, .unset, .unset, .unset, .unset, .unset, .unset, .unset, .unset, .unset, .unset, .unset, .unset, .unset, .unset, .unset, .unset] [])) (fun J608 => ?_) (fun T608 z608 X608 e608 q608 => ?_)
  · -- to pc 121
    refine own_iload X605 hx hby at_103 rfl rfl ?_
    refine own_if_eq X605 hx hby at_105 (pcY := 114) (pcN := 108) (by decide) rfl (fun (hc609 : z597 = (0 : Int32)) => ?_) (fun (hc609 : ¬ z597 = (0 : Int32)) => ?_)
    · -- pc 105: t
      have thc609 := congrArg Int32.toInt hc609
      refine own_iconst X605 hx hby at_114 rfl (1 : Int32) rfl ?_
      refine own_goto X605 hx hby at_115 (pc' := 119) (by decide) ?_
      refine own_istore X605 hx hby at_119 rfl #[.val (.long x0), .second, .val (.long x1), .second, .val (.long x2), .second, .val (.long x3), .second, .val (.int x4), .val (.int x5), .val (.long (x0 &&& (1152921504606846975 : Int64))), .second, .val (.long (x1 &&& (1152921504606846975 : Int64))), .second, .val (.long (x2 &&& (1152921504606846975 : Int64))), .second, .val (.long (x3 &&& (1152921504606846975 : Int64))), .second, .val (.int z597), .val (.int (x4 &&& (3 : Int32))), .val (.int z599), .val (.int z602), .val (.int z605), .val (.int (1 : Int32)), .unset, .unset, .unset, .unset, .unset, .unset, .unset, .unset, .unset, .unset, .unset, .unset, .unset, .unset, .unset, .unset, .unset, .unset, .unset, .unset, .unset, .unset, .unset, .unset, .unset, .unset] rfl ?_
      exact J608 T605 (1 : Int32) X605 e605 (Or.inl rfl)
    · -- pc 105: f
      have thc609 := own_nti hc609
      refine own_iload X605 hx hby at_108 rfl rfl ?_
      refine own_iconst X605 hx hby at_110 rfl (3 : Int32) rfl ?_
      refine own_icmp_eq X605 hx hby at_111 (pcY := 118) (pcN := 114) (by decide) rfl (fun (hc610 : (x4 &&& (3 : Int32)) = (3 : Int32)) => ?_) (fun (hc610 : ¬ (x4 &&& (3 : Int32)) = (3 : Int32)) => ?_)
      · -- pc 111: t
        have thc610 := congrArg Int32.toInt hc610
        refine own_iconst X605 hx hby at_118 rfl (0 : Int32) rfl ?_
        refine own_istore X605 hx hby at_119 rfl #[.val (.long x0), .second, .val (.long x1), .second, .val (.long x2), .second, .val (.long x3), .second, .val (.int x4), .val (.int x5), .val (.long (x0 &&& (1152921504606846975 : Int64))), .second, .val (.long (x1 &&& (1152921504606846975 : Int64))), .second, .val (.long (x2 &&& (1152921504606846975 : Int64))), .second, .val (.long (x3 &&& (1152921504606846975 : Int64))), .second, .val (.int z597), .val (.int (x4 &&& (3 : Int32))), .val (.int z599), .val (.int z602), .val (.int z605), .val (.int (0 : Int32)), .unset, .unset, .unset, .unset, .unset, .unset, .unset, .unset, .unset, .unset, .unset, .unset, .unset, .unset, .unset, .unset, .unset, .unset, .unset, .unset, .unset, .unset, .unset, .unset, .unset, .unset] rfl ?_
        exact J608 T605 (0 : Int32) X605 e605 (Or.inr ⟨rfl, thc610⟩)
      · -- pc 111: f
        have thc610 := own_nti hc610
        refine own_iconst X605 hx hby at_114 rfl (1 : Int32) rfl ?_
        refine own_goto X605 hx hby at_115 (pc' := 119) (by decide) ?_
        refine own_istore X605 hx hby at_119 rfl #[.val (.long x0), .second, .val (.long x1), .second, .val (.long x2), .second, .val (.long x3), .second, .val (.int x4), .val (.int x5), .val (.long (x0 &&& (1152921504606846975 : Int64))), .second, .val (.long (x1 &&& (1152921504606846975 : Int64))), .second, .val (.long (x2 &&& (1152921504606846975 : Int64))), .second, .val (.long (x3 &&& (1152921504606846975 : Int64))), .second, .val (.int z597), .val (.int (x4 &&& (3 : Int32))), .val (.int z599), .val (.int z602), .val (.int z605), .val (.int (1 : Int32)), .unset, .unset, .unset, .unset, .unset, .unset, .unset, .unset, .unset, .unset, .unset, .unset, .unset, .unset, .unset, .unset, .unset, .unset, .unset, .unset, .unset, .unset, .unset, .unset, .unset, .unset] rfl ?_
        exact J608 T605 (1 : Int32) X605 e605 (Or.inl rfl)
  show Ends p.tables e below _ (T608.setTop (mkF m 121 #[.val (.long x0), .second, .val (.long x1), .second, .val (.long x2), .second, .val (.long x3), .second, .val (.int x4), .val (.int x5), .val (.long (x0 &&& (1152921504606846975 : Int64))), .second, .val (.long (x1 &&& (1152921504606846975 : Int64))), .second, .val (.long (x2 &&& (1152921504606846975 : Int64))), .second, .val (.long (x3 &&& (1152921504606846975 : Int64))), .second, .val (.int z597), .val (.int (x4 &&& (3 : Int32))), .val (.int z599), .val (.int z602), .val (.int z605), .val (.int z608), .unset, .unset, .unset, .unset, .unset, .unset, .unset, .unset, .unset, .unset, .unset, .unset, .unset, .unset, .unset, .unset, .unset, .unset, .unset, .unset, .unset, .unset, .unset, .unset, .unset, .unset] []))
  refine own_new X608 hx hby hZ hown (hw _ tw_1) (hw _ tw_2) (hw _ tw_3) e608 (by decide) (by decide) at_121 rfl (fun T611 h611 b611 X611 e611 g611 E611 A611 D611 => ?_)
  have ge_b611 : n0 ≤ b611 := own_ge O g611
  have F611_costs : Fld Z h611 b611 "com/example/weftwork/weftwork/algorithm/Assignment" "costs" "[[J" .null := D611 (Or.inr (hw _ tw_14)) (ty := (.array (.array .long))) (by decide)
  have F611_rowPotential : Fld Z h611 b611 "com/example/weftwork/weftwork/algorithm/Assignment" "rowPotential" "[J" .null := D611 (Or.inr (hw _ tw_16)) (ty := (.array .long)) (by decide)
  have F611_columnPotential : Fld Z h611 b611 "com/example/weftwork/weftwork/algorithm/Assignment" "columnPotential" "[J" .null := D611 (Or.inr (hw _ tw_18)) (ty := (.array .long)) (by decide)
  have F611_holder : Fld Z h611 b611 "com/example/weftwork/weftwork/algorithm/Assignment" "holder" "[I" .null := D611 (Or.inr (hw _ tw_21)) (ty := (.array .int)) (by decide)
  have F611_previous : Fld Z h611 b611 "com/example/weftwork/weftwork/algorithm/Assignment" "previous" "[I" .null := D611 (Or.inr (hw _ tw_23)) (ty := (.array .int)) (by decide)
  have F611_reach : Fld Z h611 b611 "com/example/weftwork/weftwork/algorithm/Assignment" "reach" "[J" .null := D611 (Or.inr (hw _ tw_25)) (ty := (.array .long)) (by decide)
  have F611_done : Fld Z h611 b611 "com/example/weftwork/weftwork/algorithm/Assignment" "done" "[Z" .null := D611 (Or.inr (hw _ tw_28)) (ty := (.array .boolean)) (by decide)
  refine own_dup X611 hx hby at_124 rfl rfl ?_
  refine own_iconst X611 hx hby at_125 rfl (2 : Int32) rfl ?_
  refine own_iconst X611 hx hby at_126 rfl (2 : Int32) rfl ?_
  have f613 := (O.ext E611)
  refine own_special X611 hx hby hZ (a := b611) (argsL := [(.int (2 : Int32)), (.int (2 : Int32))]) (rest := [(.ref b611)]) hown rfl (hw _ tw_4) (hw _ tw_5) (hw _ tw_3) (hw _ tw_6) (by decide) (rm1 l Z a0 hw b611 h611 n0 f613 ge_b611 A611 F611_costs F611_rowPotential F611_columnPotential F611_holder F611_previous F611_reach F611_done) e611 (by rw [hml]; rfl) pd_5 rfl (by decide) (W := 1) (Nat.le_refl _) (by decide) (by decide) (by decide) at_127 rfl rfl (fun v612 T612 L612 X612 hQ612 => ?_)
  obtain ⟨cs, r0, r1, up, vp, ho, pr, re, dn, kc, k0, k1, ku, kv, kh, kp, kr, kd, rfl, N612q, K612, ord, B0, Aup, Avp, Aho, Apr, Are, Adn⟩ := hQ612
  show Ends p.tables e below _ (T612.setTop (mkF m 130 #[.val (.long x0), .second, .val (.long x1), .second, .val (.long x2), .second, .val (.long x3), .second, .val (.int x4), .val (.int x5), .val (.long (x0 &&& (1152921504606846975 : Int64))), .second, .val (.long (x1 &&& (1152921504606846975 : Int64))), .second, .val (.long (x2 &&& (1152921504606846975 : Int64))), .second, .val (.long (x3 &&& (1152921504606846975 : Int64))), .second, .val (.int z597), .val (.int (x4 &&& (3 : Int32))), .val (.int z599), .val (.int z602), .val (.int z605), .val (.int z608), .unset, .unset, .unset, .unset, .unset, .unset, .unset, .unset, .unset, .unset, .unset, .unset, .unset, .unset, .unset, .unset, .unset, .unset, .unset, .unset, .unset, .unset, .unset, .unset, .unset, .unset] [(.ref b611)]))
  refine own_astore X612 hx hby at_130 rfl #[.val (.long x0), .second, .val (.long x1), .second, .val (.long x2), .second, .val (.long x3), .second, .val (.int x4), .val (.int x5), .val (.long (x0 &&& (1152921504606846975 : Int64))), .second, .val (.long (x1 &&& (1152921504606846975 : Int64))), .second, .val (.long (x2 &&& (1152921504606846975 : Int64))), .second, .val (.long (x3 &&& (1152921504606846975 : Int64))), .second, .val (.int z597), .val (.int (x4 &&& (3 : Int32))), .val (.int z599), .val (.int z602), .val (.int z605), .val (.int z608), .val (.ref b611), .unset, .unset, .unset, .unset, .unset, .unset, .unset, .unset, .unset, .unset, .unset, .unset, .unset, .unset, .unset, .unset, .unset, .unset, .unset, .unset, .unset, .unset, .unset, .unset, .unset] rfl rfl ?_
  refine own_aload X612 hx hby at_132 rfl rfl rfl ?_
  refine own_iconst X612 hx hby at_134 rfl (0 : Int32) rfl ?_
  refine own_virtual X612 hx hby hZ (Cn := "com/example/weftwork/weftwork/algorithm/Assignment") (a := b611) (argsL := [(.int (0 : Int32))]) (rest := []) hown (hw _ tw_29) (hw _ tw_30) (hw _ tw_32) (hw _ tw_31) (hw _ tw_3) (hw _ tw_33) (by decide) (rmrow0 l Z a0 hw b611 T612.heap B0) (B_E B0) rfl (by rw [hml]; rfl) pd_6 rfl (by decide) (W := 0) (Nat.le_refl _) (by decide) (by decide) (by decide) at_135 rfl rfl (fun v614 T614 L614 X614 hQ614 => ?_)
  obtain ⟨rfl, rfl, e614⟩ := hQ614
  show Ends p.tables e below _ (T614.setTop (mkF m 138 #[.val (.long x0), .second, .val (.long x1), .second, .val (.long x2), .second, .val (.long x3), .second, .val (.int x4), .val (.int x5), .val (.long (x0 &&& (1152921504606846975 : Int64))), .second, .val (.long (x1 &&& (1152921504606846975 : Int64))), .second, .val (.long (x2 &&& (1152921504606846975 : Int64))), .second, .val (.long (x3 &&& (1152921504606846975 : Int64))), .second, .val (.int z597), .val (.int (x4 &&& (3 : Int32))), .val (.int z599), .val (.int z602), .val (.int z605), .val (.int z608), .val (.ref b611), .unset, .unset, .unset, .unset, .unset, .unset, .unset, .unset, .unset, .unset, .unset, .unset, .unset, .unset, .unset, .unset, .unset, .unset, .unset, .unset, .unset, .unset, .unset, .unset, .unset] [(.ref r0)]))
  refine own_astore X614 hx hby at_138 rfl #[.val (.long x0), .second, .val (.long x1), .second, .val (.long x2), .second, .val (.long x3), .second, .val (.int x4), .val (.int x5), .val (.long (x0 &&& (1152921504606846975 : Int64))), .second, .val (.long (x1 &&& (1152921504606846975 : Int64))), .second, .val (.long (x2 &&& (1152921504606846975 : Int64))), .second, .val (.long (x3 &&& (1152921504606846975 : Int64))), .second, .val (.int z597), .val (.int (x4 &&& (3 : Int32))), .val (.int z599), .val (.int z602), .val (.int z605), .val (.int z608), .val (.ref b611), .val (.ref r0), .unset, .unset, .unset, .unset, .unset, .unset, .unset, .unset, .unset, .unset, .unset, .unset, .unset, .unset, .unset, .unset, .unset, .unset, .unset, .unset, .unset, .unset, .unset, .unset] rfl rfl ?_
  refine own_aload X614 hx hby at_140 rfl rfl rfl ?_
  refine own_iconst X614 hx hby at_142 rfl (1 : Int32) rfl ?_
  refine own_virtual X614 hx hby hZ (Cn := "com/example/weftwork/weftwork/algorithm/Assignment") (a := b611) (argsL := [(.int (1 : Int32))]) (rest := []) hown (hw _ tw_29) (hw _ tw_30) (hw _ tw_32) (hw _ tw_31) (hw _ tw_3) (hw _ tw_33) (by decide) (rmrow1 l Z a0 hw b611 T612.heap B0) (B_E B0) e614 (by rw [hml]; rfl) pd_6 rfl (by decide) (W := 0) (Nat.le_refl _) (by decide) (by decide) (by decide) at_143 rfl rfl (fun v615 T615 L615 X615 hQ615 => ?_)
  obtain ⟨rfl, rfl, e615⟩ := hQ615
  show Ends p.tables e below _ (T615.setTop (mkF m 146 #[.val (.long x0), .second, .val (.long x1), .second, .val (.long x2), .second, .val (.long x3), .second, .val (.int x4), .val (.int x5), .val (.long (x0 &&& (1152921504606846975 : Int64))), .second, .val (.long (x1 &&& (1152921504606846975 : Int64))), .second, .val (.long (x2 &&& (1152921504606846975 : Int64))), .second, .val (.long (x3 &&& (1152921504606846975 : Int64))), .second, .val (.int z597), .val (.int (x4 &&& (3 : Int32))), .val (.int z599), .val (.int z602), .val (.int z605), .val (.int z608), .val (.ref b611), .val (.ref r0), .unset, .unset, .unset, .unset, .unset, .unset, .unset, .unset, .unset, .unset, .unset, .unset, .unset, .unset, .unset, .unset, .unset, .unset, .unset, .unset, .unset, .unset, .unset, .unset] [(.ref r1)]))
  refine own_astore X615 hx hby at_146 rfl #[.val (.long x0), .second, .val (.long x1), .second, .val (.long x2), .second, .val (.long x3), .second, .val (.int x4), .val (.int x5), .val (.long (x0 &&& (1152921504606846975 : Int64))), .second, .val (.long (x1 &&& (1152921504606846975 : Int64))), .second, .val (.long (x2 &&& (1152921504606846975 : Int64))), .second, .val (.long (x3 &&& (1152921504606846975 : Int64))), .second, .val (.int z597), .val (.int (x4 &&& (3 : Int32))), .val (.int z599), .val (.int z602), .val (.int z605), .val (.int z608), .val (.ref b611), .val (.ref r0), .val (.ref r1), .unset, .unset, .unset, .unset, .unset, .unset, .unset, .unset, .unset, .unset, .unset, .unset, .unset, .unset, .unset, .unset, .unset, .unset, .unset, .unset, .unset, .unset, .unset] rfl rfl ?_
  refine own_aload X615 hx hby at_148 rfl rfl rfl ?_
  refine own_iconst X615 hx hby at_150 rfl (0 : Int32) rfl ?_
  refine own_joinT X615 e615 (fun z616 : Int64 => (z599.toInt = 1 ∧ z616.toInt = (x0 &&& (1152921504606846975 : Int64)).toInt) ∨ (z599.toInt = 0 ∧ z616.toInt = 9223372036854775807)) (fun z616 => (mkF m 164 #[.val (.long x0), .second, .val (.long x1), .second, .val (.long x2), .second, .val (.long x3), .second, .val (.int x4), .val (.int x5), .val (.long (x0 &&& (1152921504606846975 : Int64))), .second, .val (.long (x1 &&& (1152921504606846975 : Int64))), .second, .val (.long (x2 &&& (1152921504606846975 : Int64))), .second, .val (.long (x3 &&& (1152921504606846975 : Int64))), .second, .val (.int z597), .val (.int (x4 &&& (3 : Int32))), .val (.int z599), .val (.int z602), .val (.int z605), .val (.int z608), .val (.ref b611), .val (.ref r0), .val (.ref r1), .unset, .unset, .unset, .unset, .unset, .unset, .unset, .unset, .unset, .unset, .unset, .unset, .unset, .unset, .unset, .unset, .unset, .unset, .unset, .unset, .unset, .unset, .unset] [(.long z616), (.int (0 : Int32)), (.ref r0)])) (fun J616 => ?_) (fun T616 z616 X616 e616 q616 => ?_)
  · -- to pc 164
    refine own_iload X615 hx hby at_151 rfl rfl ?_
    refine own_if_eq X615 hx hby at_153 (pcY := 161) (pcN := 156) (by decide) rfl (fun (hc617 : z599 = (0 : Int32)) => ?_) (fun (hc617 : ¬ z599 = (0 : Int32)) => ?_)
    · -- pc 153: t
      have thc617 := congrArg Int32.toInt hc617
      refine own_ldc2J X615 hx hby hZ hown (hw _ tw_76) at_161 rfl ?_
      exact J616 T615 (9223372036854775807 : Int64) X615 e615 (Or.inr ⟨thc617, own_iN⟩)
    · -- pc 153: f
      have thc617 := own_nti hc617
      refine own_lload X615 hx hby at_156 rfl rfl ?_
      refine own_goto X615 hx hby at_158 (pc' := 164) (by decide) ?_
      exact J616 T615 (x0 &&& (1152921504606846975 : Int64)) X615 e615 (Or.inl ⟨own_k1 q599 thc617, rfl⟩)
  show Ends p.tables e below _ (T616.setTop (mkF m 164 #[.val (.long x0), .second, .val (.long x1), .second, .val (.long x2), .second, .val (.long x3), .second, .val (.int x4), .val (.int x5), .val (.long (x0 &&& (1152921504606846975 : Int64))), .second, .val (.long (x1 &&& (1152921504606846975 : Int64))), .second, .val (.long (x2 &&& (1152921504606846975 : Int64))), .second, .val (.long (x3 &&& (1152921504606846975 : Int64))), .second, .val (.int z597), .val (.int (x4 &&& (3 : Int32))), .val (.int z599), .val (.int z602), .val (.int z605), .val (.int z608), .val (.ref b611), .val (.ref r0), .val (.ref r1), .unset, .unset, .unset, .unset, .unset, .unset, .unset, .unset, .unset, .unset, .unset, .unset, .unset, .unset, .unset, .unset, .unset, .unset, .unset, .unset, .unset, .unset, .unset] [(.long z616), (.int (0 : Int32)), (.ref r0)]))
  refine own_lastore X616 hx hby hZ z616 rfl e616 (B_r0 B0) (by decide) 0 rfl (show 0 < 2 by decide) [(.long z616), (.long (0 : Int64))] rfl rfl (Fr.app (Fr.app (Fr.app N0 N612q) (Fr.nil _)) (Fr.nil _)) (ge_r0 ord) at_164 rfl (fun T618 h618 L618 X618 e618 W618 V618 N618 => ?_)
  have B619 : OwnB Z h618 b611 cs r0 r1 up vp ho pr re dn kc k0 k1 z616 (0 : Int64) (0 : Int64) (0 : Int64) := ⟨(B_E B0).wr W618, (B_costs B0).other W618 (Or.inl (ne_x_r0 ord)), (B_rowPotential B0).other W618 (Or.inl (ne_x_r0 ord)), (B_columnPotential B0).other W618 (Or.inl (ne_x_r0 ord)), (B_holder B0).other W618 (Or.inl (ne_x_r0 ord)), (B_previous B0).other W618 (Or.inl (ne_x_r0 ord)), (B_reach B0).other W618 (Or.inl (ne_x_r0 ord)), (B_done B0).other W618 (Or.inl (ne_x_r0 ord)), (B_cs B0).other W618 (ne_cs_r0 ord), V618, (B_r1 B0).other W618 (ne_r1_r0 ord)⟩
  refine own_aload X618 hx hby at_165 rfl rfl rfl ?_
  refine own_iconst X618 hx hby at_167 rfl (1 : Int32) rfl ?_
  refine own_joinT X618 e618 (fun z620 : Int64 => (z602.toInt = 1 ∧ z620.toInt = (x1 &&& (1152921504606846975 : Int64)).toInt) ∨ (z602.toInt = 0 ∧ z620.toInt = 9223372036854775807)) (fun z620 => (mkF m 181 #[.val (.long x0), .second, .val (.long x1), .second, .val (.long x2), .second, .val (.long x3), .second, .val (.int x4), .val (.int x5), .val (.long (x0 &&& (1152921504606846975 : Int64))), .second, .val (.long (x1 &&& (1152921504606846975 : Int64))), .second, .val (.long (x2 &&& (1152921504606846975 : Int64))), .second, .val (.long (x3 &&& (1152921504606846975 : Int64))), .second, .val (.int z597), .val (.int (x4 &&& (3 : Int32))), .val (.int z599), .val (.int z602), .val (.int z605), .val (.int z608), .val (.ref b611), .val (.ref r0), .val (.ref r1), .unset, .unset, .unset, .unset, .unset, .unset, .unset, .unset, .unset, .unset, .unset, .unset, .unset, .unset, .unset, .unset, .unset, .unset, .unset, .unset, .unset, .unset, .unset] [(.long z620), (.int (1 : Int32)), (.ref r0)])) (fun J620 => ?_) (fun T620 z620 X620 e620 q620 => ?_)
  · -- to pc 181
    refine own_iload X618 hx hby at_168 rfl rfl ?_
    refine own_if_eq X618 hx hby at_170 (pcY := 178) (pcN := 173) (by decide) rfl (fun (hc621 : z602 = (0 : Int32)) => ?_) (fun (hc621 : ¬ z602 = (0 : Int32)) => ?_)
    · -- pc 170: t
      have thc621 := congrArg Int32.toInt hc621
      refine own_ldc2J X618 hx hby hZ hown (hw _ tw_76) at_178 rfl ?_
      exact J620 T618 (9223372036854775807 : Int64) X618 e618 (Or.inr ⟨thc621, own_iN⟩)
    · -- pc 170: f
      have thc621 := own_nti hc621
      refine own_lload X618 hx hby at_173 rfl rfl ?_
      refine own_goto X618 hx hby at_175 (pc' := 181) (by decide) ?_
      exact J620 T618 (x1 &&& (1152921504606846975 : Int64)) X618 e618 (Or.inl ⟨own_k1 q602 thc621, rfl⟩)
  show Ends p.tables e below _ (T620.setTop (mkF m 181 #[.val (.long x0), .second, .val (.long x1), .second, .val (.long x2), .second, .val (.long x3), .second, .val (.int x4), .val (.int x5), .val (.long (x0 &&& (1152921504606846975 : Int64))), .second, .val (.long (x1 &&& (1152921504606846975 : Int64))), .second, .val (.long (x2 &&& (1152921504606846975 : Int64))), .second, .val (.long (x3 &&& (1152921504606846975 : Int64))), .second, .val (.int z597), .val (.int (x4 &&& (3 : Int32))), .val (.int z599), .val (.int z602), .val (.int z605), .val (.int z608), .val (.ref b611), .val (.ref r0), .val (.ref r1), .unset, .unset, .unset, .unset, .unset, .unset, .unset, .unset, .unset, .unset, .unset, .unset, .unset, .unset, .unset, .unset, .unset, .unset, .unset, .unset, .unset, .unset, .unset] [(.long z620), (.int (1 : Int32)), (.ref r0)]))
  refine own_lastore X620 hx hby hZ z620 rfl e620 (B_r0 B619) (by decide) 1 rfl (show 1 < 2 by decide) [(.long z616), (.long z620)] rfl rfl N618 (ge_r0 ord) at_181 rfl (fun T622 h622 L622 X622 e622 W622 V622 N622 => ?_)
  have B623 : OwnB Z h622 b611 cs r0 r1 up vp ho pr re dn kc k0 k1 z616 z620 (0 : Int64) (0 : Int64) := ⟨(B_E B619).wr W622, (B_costs B619).other W622 (Or.inl (ne_x_r0 ord)), (B_rowPotential B619).other W622 (Or.inl (ne_x_r0 ord)), (B_columnPotential B619).other W622 (Or.inl (ne_x_r0 ord)), (B_holder B619).other W622 (Or.inl (ne_x_r0 ord)), (B_previous B619).other W622 (Or.inl (ne_x_r0 ord)), (B_reach B619).other W622 (Or.inl (ne_x_r0 ord)), (B_done B619).other W622 (Or.inl (ne_x_r0 ord)), (B_cs B619).other W622 (ne_cs_r0 ord), V622, (B_r1 B619).other W622 (ne_r1_r0 ord)⟩
  refine own_aload X622 hx hby at_182 rfl rfl rfl ?_
  refine own_iconst X622 hx hby at_184 rfl (0 : Int32) rfl ?_
  refine own_joinT X622 e622 (fun z624 : Int64 => (z605.toInt = 1 ∧ z624.toInt = (x2 &&& (1152921504606846975 : Int64)).toInt) ∨ (z605.toInt = 0 ∧ z624.toInt = 9223372036854775807)) (fun z624 => (mkF m 198 #[.val (.long x0), .second, .val (.long x1), .second, .val (.long x2), .second, .val (.long x3), .second, .val (.int x4), .val (.int x5), .val (.long (x0 &&& (1152921504606846975 : Int64))), .second, .val (.long (x1 &&& (1152921504606846975 : Int64))), .second, .val (.long (x2 &&& (1152921504606846975 : Int64))), .second, .val (.long (x3 &&& (1152921504606846975 : Int64))), .second, .val (.int z597), .val (.int (x4 &&& (3 : Int32))), .val (.int z599), .val (.int z602), .val (.int z605), .val (.int z608), .val (.ref b611), .val (.ref r0), .val (.ref r1), .unset, .unset, .unset, .unset, .unset, .unset, .unset, .unset, .unset, .unset, .unset, .unset, .unset, .unset, .unset, .unset, .unset, .unset, .unset, .unset, .unset, .unset, .unset] [(.long z624), (.int (0 : Int32)), (.ref r1)])) (fun J624 => ?_) (fun T624 z624 X624 e624 q624 => ?_)
  · -- to pc 198
    refine own_iload X622 hx hby at_185 rfl rfl ?_
    refine own_if_eq X622 hx hby at_187 (pcY := 195) (pcN := 190) (by decide) rfl (fun (hc625 : z605 = (0 : Int32)) => ?_) (fun (hc625 : ¬ z605 = (0 : Int32)) => ?_)
    · -- pc 187: t
      have thc625 := congrArg Int32.toInt hc625
      refine own_ldc2J X622 hx hby hZ hown (hw _ tw_76) at_195 rfl ?_
      exact J624 T622 (9223372036854775807 : Int64) X622 e622 (Or.inr ⟨thc625, own_iN⟩)
    · -- pc 187: f
      have thc625 := own_nti hc625
      refine own_lload X622 hx hby at_190 rfl rfl ?_
      refine own_goto X622 hx hby at_192 (pc' := 198) (by decide) ?_
      exact J624 T622 (x2 &&& (1152921504606846975 : Int64)) X622 e622 (Or.inl ⟨own_k1 q605 thc625, rfl⟩)
  show Ends p.tables e below _ (T624.setTop (mkF m 198 #[.val (.long x0), .second, .val (.long x1), .second, .val (.long x2), .second, .val (.long x3), .second, .val (.int x4), .val (.int x5), .val (.long (x0 &&& (1152921504606846975 : Int64))), .second, .val (.long (x1 &&& (1152921504606846975 : Int64))), .second, .val (.long (x2 &&& (1152921504606846975 : Int64))), .second, .val (.long (x3 &&& (1152921504606846975 : Int64))), .second, .val (.int z597), .val (.int (x4 &&& (3 : Int32))), .val (.int z599), .val (.int z602), .val (.int z605), .val (.int z608), .val (.ref b611), .val (.ref r0), .val (.ref r1), .unset, .unset, .unset, .unset, .unset, .unset, .unset, .unset, .unset, .unset, .unset, .unset, .unset, .unset, .unset, .unset, .unset, .unset, .unset, .unset, .unset, .unset, .unset] [(.long z624), (.int (0 : Int32)), (.ref r1)]))
  refine own_lastore X624 hx hby hZ z624 rfl e624 (B_r1 B623) (by decide) 0 rfl (show 0 < 2 by decide) [(.long z624), (.long (0 : Int64))] rfl rfl N622 (ge_r1 ord) at_198 rfl (fun T626 h626 L626 X626 e626 W626 V626 N626 => ?_)
  have B627 : OwnB Z h626 b611 cs r0 r1 up vp ho pr re dn kc k0 k1 z616 z620 z624 (0 : Int64) := ⟨(B_E B623).wr W626, (B_costs B623).other W626 (Or.inl (ne_x_r1 ord)), (B_rowPotential B623).other W626 (Or.inl (ne_x_r1 ord)), (B_columnPotential B623).other W626 (Or.inl (ne_x_r1 ord)), (B_holder B623).other W626 (Or.inl (ne_x_r1 ord)), (B_previous B623).other W626 (Or.inl (ne_x_r1 ord)), (B_reach B623).other W626 (Or.inl (ne_x_r1 ord)), (B_done B623).other W626 (Or.inl (ne_x_r1 ord)), (B_cs B623).other W626 (ne_cs_r1 ord), (B_r0 B623).other W626 (ne_r0_r1 ord), V626⟩
  refine own_aload X626 hx hby at_199 rfl rfl rfl ?_
  refine own_iconst X626 hx hby at_201 rfl (1 : Int32) rfl ?_
  refine own_joinT X626 e626 (fun z628 : Int64 => (z608.toInt = 1 ∧ z628.toInt = (x3 &&& (1152921504606846975 : Int64)).toInt) ∨ (z608.toInt = 0 ∧ z628.toInt = 9223372036854775807)) (fun z628 => (mkF m 215 #[.val (.long x0), .second, .val (.long x1), .second, .val (.long x2), .second, .val (.long x3), .second, .val (.int x4), .val (.int x5), .val (.long (x0 &&& (1152921504606846975 : Int64))), .second, .val (.long (x1 &&& (1152921504606846975 : Int64))), .second, .val (.long (x2 &&& (1152921504606846975 : Int64))), .second, .val (.long (x3 &&& (1152921504606846975 : Int64))), .second, .val (.int z597), .val (.int (x4 &&& (3 : Int32))), .val (.int z599), .val (.int z602), .val (.int z605), .val (.int z608), .val (.ref b611), .val (.ref r0), .val (.ref r1), .unset, .unset, .unset, .unset, .unset, .unset, .unset, .unset, .unset, .unset, .unset, .unset, .unset, .unset, .unset, .unset, .unset, .unset, .unset, .unset, .unset, .unset, .unset] [(.long z628), (.int (1 : Int32)), (.ref r1)])) (fun J628 => ?_) (fun T628 z628 X628 e628 q628 => ?_)
  · -- to pc 215
    refine own_iload X626 hx hby at_202 rfl rfl ?_
    refine own_if_eq X626 hx hby at_204 (pcY := 212) (pcN := 207) (by decide) rfl (fun (hc629 : z608 = (0 : Int32)) => ?_) (fun (hc629 : ¬ z608 = (0 : Int32)) => ?_)
    · -- pc 204: t
      have thc629 := congrArg Int32.toInt hc629
      refine own_ldc2J X626 hx hby hZ hown (hw _ tw_76) at_212 rfl ?_
      exact J628 T626 (9223372036854775807 : Int64) X626 e626 (Or.inr ⟨thc629, own_iN⟩)
    · -- pc 204: f
      have thc629 := own_nti hc629
      refine own_lload X626 hx hby at_207 rfl rfl ?_
      refine own_goto X626 hx hby at_209 (pc' := 215) (by decide) ?_
      exact J628 T626 (x3 &&& (1152921504606846975 : Int64)) X626 e626 (Or.inl ⟨own_k1 q608 thc629, rfl⟩)
  show Ends p.tables e below _ (T628.setTop (mkF m 215 #[.val (.long x0), .second, .val (.long x1), .second, .val (.long x2), .second, .val (.long x3), .second, .val (.int x4), .val (.int x5), .val (.long (x0 &&& (1152921504606846975 : Int64))), .second, .val (.long (x1 &&& (1152921504606846975 : Int64))), .second, .val (.long (x2 &&& (1152921504606846975 : Int64))), .second, .val (.long (x3 &&& (1152921504606846975 : Int64))), .second, .val (.int z597), .val (.int (x4 &&& (3 : Int32))), .val (.int z599), .val (.int z602), .val (.int z605), .val (.int z608), .val (.ref b611), .val (.ref r0), .val (.ref r1), .unset, .unset, .unset, .unset, .unset, .unset, .unset, .unset, .unset, .unset, .unset, .unset, .unset, .unset, .unset, .unset, .unset, .unset, .unset, .unset, .unset, .unset, .unset] [(.long z628), (.int (1 : Int32)), (.ref r1)]))
  refine own_lastore X628 hx hby hZ z628 rfl e628 (B_r1 B627) (by decide) 1 rfl (show 1 < 2 by decide) [(.long z624), (.long z628)] rfl rfl N626 (ge_r1 ord) at_215 rfl (fun T630 h630 L630 X630 e630 W630 V630 N630 => ?_)
  have B631 : OwnB Z h630 b611 cs r0 r1 up vp ho pr re dn kc k0 k1 z616 z620 z624 z628 := ⟨(B_E B627).wr W630, (B_costs B627).other W630 (Or.inl (ne_x_r1 ord)), (B_rowPotential B627).other W630 (Or.inl (ne_x_r1 ord)), (B_columnPotential B627).other W630 (Or.inl (ne_x_r1 ord)), (B_holder B627).other W630 (Or.inl (ne_x_r1 ord)), (B_previous B627).other W630 (Or.inl (ne_x_r1 ord)), (B_reach B627).other W630 (Or.inl (ne_x_r1 ord)), (B_done B627).other W630 (Or.inl (ne_x_r1 ord)), (B_cs B627).other W630 (ne_cs_r1 ord), (B_r0 B627).other W630 (ne_r0_r1 ord), V630⟩
  refine own_aload X630 hx hby at_216 rfl rfl rfl ?_
  refine own_iconst X630 hx hby at_218 rfl (2 : Int32) rfl ?_
  refine own_iconst X630 hx hby at_219 rfl (2 : Int32) rfl ?_
  have f633 := ((((Aup.other W618 (ne_up_r0 ord)).other W622 (ne_up_r0 ord)).other W626 (ne_up_r1 ord)).other W630 (ne_up_r1 ord))
  have f634 := ((((Avp.other W618 (ne_vp_r0 ord)).other W622 (ne_vp_r0 ord)).other W626 (ne_vp_r1 ord)).other W630 (ne_vp_r1 ord))
  have f635 := ((((Aho.other W618 (ne_ho_r0 ord)).other W622 (ne_ho_r0 ord)).other W626 (ne_ho_r1 ord)).other W630 (ne_ho_r1 ord))
  have f636 := ((((Apr.other W618 (ne_pr_r0 ord)).other W622 (ne_pr_r0 ord)).other W626 (ne_pr_r1 ord)).other W630 (ne_pr_r1 ord))
  have f637 := ((((Are.other W618 (ne_re_r0 ord)).other W622 (ne_re_r0 ord)).other W626 (ne_re_r1 ord)).other W630 (ne_re_r1 ord))
  have f638 := ((((Adn.other W618 (ne_dn_r0 ord)).other W622 (ne_dn_r0 ord)).other W626 (ne_dn_r1 ord)).other W630 (ne_dn_r1 ord))
  refine own_virtual X630 hx hby hZ (Cn := "com/example/weftwork/weftwork/algorithm/Assignment") (a := b611) (argsL := [(.int (2 : Int32)), (.int (2 : Int32))]) (rest := []) hown (hw _ tw_34) (hw _ tw_35) (hw _ tw_37) (hw _ tw_36) (hw _ tw_3) (hw _ tw_38) (by decide) (rmsol l Z a0 hw b611 h630 n0 ord B631 f633 f634 f635 f636 f637 f638 (own_l1 q616 hc0) (own_l1 q620 hc1) (own_l1 q624 hc2) (own_l1 q628 hc3) (own_l2 (show (0 : Int) ≠ 1 by decide) q599 q602 q616 q620 hc0 hc1) (own_l2 (show (2 : Int) ≠ 3 by decide) q605 q608 q624 q628 hc2 hc3) (own_l2 (show (0 : Int) ≠ 2 by decide) q599 q605 q616 q624 hc0 hc2) (own_l2 (show (1 : Int) ≠ 3 by decide) q602 q608 q620 q628 hc1 hc3) (own_l2 (show (0 : Int) ≠ 3 by decide) q599 q608 q616 q628 hc0 hc3) (own_l2 (show (1 : Int) ≠ 2 by decide) q602 q605 q620 q624 hc1 hc2)) (B_E B631) e630 (by rw [hml]; rfl) pd_7 rfl (by decide) (W := 0) (Nat.le_refl _) (by decide) (by decide) (by decide) at_220 rfl rfl (fun v632 T632 L632 X632 hQ632 => ?_)
  obtain ⟨Ua, Ub, Va, Vb, Vc, rfl, N632q, Bq, Uq, Vq, dual⟩ := hQ632
  obtain ⟨dUa, dUb, dVa, dVb, dVc, du1, du2, du3, du4, du5, du6⟩ := dual
  have hopt := own_negd dVa
  show Ends p.tables e below _ (T632.setTop (mkF m 223 #[.val (.long x0), .second, .val (.long x1), .second, .val (.long x2), .second, .val (.long x3), .second, .val (.int x4), .val (.int x5), .val (.long (x0 &&& (1152921504606846975 : Int64))), .second, .val (.long (x1 &&& (1152921504606846975 : Int64))), .second, .val (.long (x2 &&& (1152921504606846975 : Int64))), .second, .val (.long (x3 &&& (1152921504606846975 : Int64))), .second, .val (.int z597), .val (.int (x4 &&& (3 : Int32))), .val (.int z599), .val (.int z602), .val (.int z605), .val (.int z608), .val (.ref b611), .val (.ref r0), .val (.ref r1), .unset, .unset, .unset, .unset, .unset, .unset, .unset, .unset, .unset, .unset, .unset, .unset, .unset, .unset, .unset, .unset, .unset, .unset, .unset, .unset, .unset, .unset, .unset] [(.long (-Va))]))
  refine own_lstore X632 hx hby at_223 rfl #[.val (.long x0), .second, .val (.long x1), .second, .val (.long x2), .second, .val (.long x3), .second, .val (.int x4), .val (.int x5), .val (.long (x0 &&& (1152921504606846975 : Int64))), .second, .val (.long (x1 &&& (1152921504606846975 : Int64))), .second, .val (.long (x2 &&& (1152921504606846975 : Int64))), .second, .val (.long (x3 &&& (1152921504606846975 : Int64))), .second, .val (.int z597), .val (.int (x4 &&& (3 : Int32))), .val (.int z599), .val (.int z602), .val (.int z605), .val (.int z608), .val (.ref b611), .val (.ref r0), .val (.ref r1), .val (.long (-Va)), .second, .unset, .unset, .unset, .unset, .unset, .unset, .unset, .unset, .unset, .unset, .unset, .unset, .unset, .unset, .unset, .unset, .unset, .unset, .unset, .unset, .unset] rfl ?_
  refine own_joinT X632 rfl (fun z639 : Int32 => (z639.toInt = 1 ∧ z599.toInt = 1 ∧ z608.toInt = 1) ∨ (z639.toInt = 0 ∧ (z599.toInt = 0 ∨ z608.toInt = 0))) (fun z639 => (mkF m 242 #[.val (.long x0), .second, .val (.long x1), .second, .val (.long x2), .second, .val (.long x3), .second, .val (.int x4), .val (.int x5), .val (.long (x0 &&& (1152921504606846975 : Int64))), .second, .val (.long (x1 &&& (1152921504606846975 : Int64))), .second, .val (.long (x2 &&& (1152921504606846975 : Int64))), .second, .val (.long (x3 &&& (1152921504606846975 : Int64))), .second, .val (.int z597), .val (.int (x4 &&& (3 : Int32))), .val (.int z599), .val (.int z602), .val (.int z605), .val (.int z608), .val (.ref b611), .val (.ref r0), .val (.ref r1), .val (.long (-Va)), .second, .val (.int z639), .unset, .unset, .unset, .unset, .unset, .unset, .unset, .unset, .unset, .unset, .unset, .unset, .unset, .unset, .unset, .unset, .unset, .unset, .unset, .unset] [])) (fun J639 => ?_) (fun T639 z639 X639 e639 q639 => ?_)
  · -- to pc 242
    refine own_iload X632 hx hby at_225 rfl rfl ?_
    refine own_if_eq X632 hx hby at_227 (pcY := 239) (pcN := 230) (by decide) rfl (fun (hc640 : z599 = (0 : Int32)) => ?_) (fun (hc640 : ¬ z599 = (0 : Int32)) => ?_)
    · -- pc 227: t
      have thc640 := congrArg Int32.toInt hc640
      refine own_iconst X632 hx hby at_239 rfl (0 : Int32) rfl ?_
      refine own_istore X632 hx hby at_240 rfl #[.val (.long x0), .second, .val (.long x1), .second, .val (.long x2), .second, .val (.long x3), .second, .val (.int x4), .val (.int x5), .val (.long (x0 &&& (1152921504606846975 : Int64))), .second, .val (.long (x1 &&& (1152921504606846975 : Int64))), .second, .val (.long (x2 &&& (1152921504606846975 : Int64))), .second, .val (.long (x3 &&& (1152921504606846975 : Int64))), .second, .val (.int z597), .val (.int (x4 &&& (3 : Int32))), .val (.int z599), .val (.int z602), .val (.int z605), .val (.int z608), .val (.ref b611), .val (.ref r0), .val (.ref r1), .val (.long (-Va)), .second, .val (.int (0 : Int32)), .unset, .unset, .unset, .unset, .unset, .unset, .unset, .unset, .unset, .unset, .unset, .unset, .unset, .unset, .unset, .unset, .unset, .unset, .unset, .unset] rfl ?_
      exact J639 T632 (0 : Int32) X632 rfl (Or.inr ⟨rfl, Or.inl thc640⟩)
    · -- pc 227: f
      have thc640 := own_nti hc640
      refine own_iload X632 hx hby at_230 rfl rfl ?_
      refine own_if_eq X632 hx hby at_232 (pcY := 239) (pcN := 235) (by decide) rfl (fun (hc641 : z608 = (0 : Int32)) => ?_) (fun (hc641 : ¬ z608 = (0 : Int32)) => ?_)
      · -- pc 232: t
        have thc641 := congrArg Int32.toInt hc641
        refine own_iconst X632 hx hby at_239 rfl (0 : Int32) rfl ?_
        refine own_istore X632 hx hby at_240 rfl #[.val (.long x0), .second, .val (.long x1), .second, .val (.long x2), .second, .val (.long x3), .second, .val (.int x4), .val (.int x5), .val (.long (x0 &&& (1152921504606846975 : Int64))), .second, .val (.long (x1 &&& (1152921504606846975 : Int64))), .second, .val (.long (x2 &&& (1152921504606846975 : Int64))), .second, .val (.long (x3 &&& (1152921504606846975 : Int64))), .second, .val (.int z597), .val (.int (x4 &&& (3 : Int32))), .val (.int z599), .val (.int z602), .val (.int z605), .val (.int z608), .val (.ref b611), .val (.ref r0), .val (.ref r1), .val (.long (-Va)), .second, .val (.int (0 : Int32)), .unset, .unset, .unset, .unset, .unset, .unset, .unset, .unset, .unset, .unset, .unset, .unset, .unset, .unset, .unset, .unset, .unset, .unset, .unset, .unset] rfl ?_
        exact J639 T632 (0 : Int32) X632 rfl (Or.inr ⟨rfl, Or.inr thc641⟩)
      · -- pc 232: f
        have thc641 := own_nti hc641
        refine own_iconst X632 hx hby at_235 rfl (1 : Int32) rfl ?_
        refine own_goto X632 hx hby at_236 (pc' := 240) (by decide) ?_
        refine own_istore X632 hx hby at_240 rfl #[.val (.long x0), .second, .val (.long x1), .second, .val (.long x2), .second, .val (.long x3), .second, .val (.int x4), .val (.int x5), .val (.long (x0 &&& (1152921504606846975 : Int64))), .second, .val (.long (x1 &&& (1152921504606846975 : Int64))), .second, .val (.long (x2 &&& (1152921504606846975 : Int64))), .second, .val (.long (x3 &&& (1152921504606846975 : Int64))), .second, .val (.int z597), .val (.int (x4 &&& (3 : Int32))), .val (.int z599), .val (.int z602), .val (.int z605), .val (.int z608), .val (.ref b611), .val (.ref r0), .val (.ref r1), .val (.long (-Va)), .second, .val (.int (1 : Int32)), .unset, .unset, .unset, .unset, .unset, .unset, .unset, .unset, .unset, .unset, .unset, .unset, .unset, .unset, .unset, .unset, .unset, .unset, .unset, .unset] rfl ?_
        exact J639 T632 (1 : Int32) X632 rfl (Or.inl ⟨rfl, own_k1 q599 thc640, own_k1 q608 thc641⟩)
  show Ends p.tables e below _ (T639.setTop (mkF m 242 #[.val (.long x0), .second, .val (.long x1), .second, .val (.long x2), .second, .val (.long x3), .second, .val (.int x4), .val (.int x5), .val (.long (x0 &&& (1152921504606846975 : Int64))), .second, .val (.long (x1 &&& (1152921504606846975 : Int64))), .second, .val (.long (x2 &&& (1152921504606846975 : Int64))), .second, .val (.long (x3 &&& (1152921504606846975 : Int64))), .second, .val (.int z597), .val (.int (x4 &&& (3 : Int32))), .val (.int z599), .val (.int z602), .val (.int z605), .val (.int z608), .val (.ref b611), .val (.ref r0), .val (.ref r1), .val (.long (-Va)), .second, .val (.int z639), .unset, .unset, .unset, .unset, .unset, .unset, .unset, .unset, .unset, .unset, .unset, .unset, .unset, .unset, .unset, .unset, .unset, .unset, .unset, .unset] []))
  refine own_joinT X639 e639 (fun z642 : Int32 => (z642.toInt = 1 ∧ z602.toInt = 1 ∧ z605.toInt = 1) ∨ (z642.toInt = 0 ∧ (z602.toInt = 0 ∨ z605.toInt = 0))) (fun z642 => (mkF m 259 #[.val (.long x0), .second, .val (.long x1), .second, .val (.long x2), .second, .val (.long x3), .second, .val (.int x4), .val (.int x5), .val (.long (x0 &&& (1152921504606846975 : Int64))), .second, .val (.long (x1 &&& (1152921504606846975 : Int64))), .second, .val (.long (x2 &&& (1152921504606846975 : Int64))), .second, .val (.long (x3 &&& (1152921504606846975 : Int64))), .second, .val (.int z597), .val (.int (x4 &&& (3 : Int32))), .val (.int z599), .val (.int z602), .val (.int z605), .val (.int z608), .val (.ref b611), .val (.ref r0), .val (.ref r1), .val (.long (-Va)), .second, .val (.int z639), .val (.int z642), .unset, .unset, .unset, .unset, .unset, .unset, .unset, .unset, .unset, .unset, .unset, .unset, .unset, .unset, .unset, .unset, .unset, .unset, .unset] [])) (fun J642 => ?_) (fun T642 z642 X642 e642 q642 => ?_)
  · -- to pc 259
    refine own_iload X639 hx hby at_242 rfl rfl ?_
    refine own_if_eq X639 hx hby at_244 (pcY := 256) (pcN := 247) (by decide) rfl (fun (hc643 : z602 = (0 : Int32)) => ?_) (fun (hc643 : ¬ z602 = (0 : Int32)) => ?_)
    · -- pc 244: t
      have thc643 := congrArg Int32.toInt hc643
      refine own_iconst X639 hx hby at_256 rfl (0 : Int32) rfl ?_
      refine own_istore X639 hx hby at_257 rfl #[.val (.long x0), .second, .val (.long x1), .second, .val (.long x2), .second, .val (.long x3), .second, .val (.int x4), .val (.int x5), .val (.long (x0 &&& (1152921504606846975 : Int64))), .second, .val (.long (x1 &&& (1152921504606846975 : Int64))), .second, .val (.long (x2 &&& (1152921504606846975 : Int64))), .second, .val (.long (x3 &&& (1152921504606846975 : Int64))), .second, .val (.int z597), .val (.int (x4 &&& (3 : Int32))), .val (.int z599), .val (.int z602), .val (.int z605), .val (.int z608), .val (.ref b611), .val (.ref r0), .val (.ref r1), .val (.long (-Va)), .second, .val (.int z639), .val (.int (0 : Int32)), .unset, .unset, .unset, .unset, .unset, .unset, .unset, .unset, .unset, .unset, .unset, .unset, .unset, .unset, .unset, .unset, .unset, .unset, .unset] rfl ?_
      exact J642 T639 (0 : Int32) X639 e639 (Or.inr ⟨rfl, Or.inl thc643⟩)
    · -- pc 244: f
      have thc643 := own_nti hc643
      refine own_iload X639 hx hby at_247 rfl rfl ?_
      refine own_if_eq X639 hx hby at_249 (pcY := 256) (pcN := 252) (by decide) rfl (fun (hc644 : z605 = (0 : Int32)) => ?_) (fun (hc644 : ¬ z605 = (0 : Int32)) => ?_)
      · -- pc 249: t
        have thc644 := congrArg Int32.toInt hc644
        refine own_iconst X639 hx hby at_256 rfl (0 : Int32) rfl ?_
        refine own_istore X639 hx hby at_257 rfl #[.val (.long x0), .second, .val (.long x1), .second, .val (.long x2), .second, .val (.long x3), .second, .val (.int x4), .val (.int x5), .val (.long (x0 &&& (1152921504606846975 : Int64))), .second, .val (.long (x1 &&& (1152921504606846975 : Int64))), .second, .val (.long (x2 &&& (1152921504606846975 : Int64))), .second, .val (.long (x3 &&& (1152921504606846975 : Int64))), .second, .val (.int z597), .val (.int (x4 &&& (3 : Int32))), .val (.int z599), .val (.int z602), .val (.int z605), .val (.int z608), .val (.ref b611), .val (.ref r0), .val (.ref r1), .val (.long (-Va)), .second, .val (.int z639), .val (.int (0 : Int32)), .unset, .unset, .unset, .unset, .unset, .unset, .unset, .unset, .unset, .unset, .unset, .unset, .unset, .unset, .unset, .unset, .unset, .unset, .unset] rfl ?_
        exact J642 T639 (0 : Int32) X639 e639 (Or.inr ⟨rfl, Or.inr thc644⟩)
      · -- pc 249: f
        have thc644 := own_nti hc644
        refine own_iconst X639 hx hby at_252 rfl (1 : Int32) rfl ?_
        refine own_goto X639 hx hby at_253 (pc' := 257) (by decide) ?_
        refine own_istore X639 hx hby at_257 rfl #[.val (.long x0), .second, .val (.long x1), .second, .val (.long x2), .second, .val (.long x3), .second, .val (.int x4), .val (.int x5), .val (.long (x0 &&& (1152921504606846975 : Int64))), .second, .val (.long (x1 &&& (1152921504606846975 : Int64))), .second, .val (.long (x2 &&& (1152921504606846975 : Int64))), .second, .val (.long (x3 &&& (1152921504606846975 : Int64))), .second, .val (.int z597), .val (.int (x4 &&& (3 : Int32))), .val (.int z599), .val (.int z602), .val (.int z605), .val (.int z608), .val (.ref b611), .val (.ref r0), .val (.ref r1), .val (.long (-Va)), .second, .val (.int z639), .val (.int (1 : Int32)), .unset, .unset, .unset, .unset, .unset, .unset, .unset, .unset, .unset, .unset, .unset, .unset, .unset, .unset, .unset, .unset, .unset, .unset, .unset] rfl ?_
        exact J642 T639 (1 : Int32) X639 e639 (Or.inl ⟨rfl, own_k1 q602 thc643, own_k1 q605 thc644⟩)
  show Ends p.tables e below _ (T642.setTop (mkF m 259 #[.val (.long x0), .second, .val (.long x1), .second, .val (.long x2), .second, .val (.long x3), .second, .val (.int x4), .val (.int x5), .val (.long (x0 &&& (1152921504606846975 : Int64))), .second, .val (.long (x1 &&& (1152921504606846975 : Int64))), .second, .val (.long (x2 &&& (1152921504606846975 : Int64))), .second, .val (.long (x3 &&& (1152921504606846975 : Int64))), .second, .val (.int z597), .val (.int (x4 &&& (3 : Int32))), .val (.int z599), .val (.int z602), .val (.int z605), .val (.int z608), .val (.ref b611), .val (.ref r0), .val (.ref r1), .val (.long (-Va)), .second, .val (.int z639), .val (.int z642), .unset, .unset, .unset, .unset, .unset, .unset, .unset, .unset, .unset, .unset, .unset, .unset, .unset, .unset, .unset, .unset, .unset, .unset, .unset] []))
  refine own_joinT X642 e642 (fun z645 : Int64 => (z639.toInt = 1 ∧ z642.toInt = 1 ∧ z645.toInt ≤ ((x0 &&& (1152921504606846975 : Int64)) + (x3 &&& (1152921504606846975 : Int64))).toInt ∧ z645.toInt ≤ ((x1 &&& (1152921504606846975 : Int64)) + (x2 &&& (1152921504606846975 : Int64))).toInt ∧ (z645.toInt = ((x0 &&& (1152921504606846975 : Int64)) + (x3 &&& (1152921504606846975 : Int64))).toInt ∨ z645.toInt = ((x1 &&& (1152921504606846975 : Int64)) + (x2 &&& (1152921504606846975 : Int64))).toInt)) ∨ (z639.toInt = 1 ∧ z642.toInt = 0 ∧ z645.toInt = ((x0 &&& (1152921504606846975 : Int64)) + (x3 &&& (1152921504606846975 : Int64))).toInt) ∨ (z639.toInt = 0 ∧ z645.toInt = ((x1 &&& (1152921504606846975 : Int64)) + (x2 &&& (1152921504606846975 : Int64))).toInt)) (fun z645 => (mkF m 309 #[.val (.long x0), .second, .val (.long x1), .second, .val (.long x2), .second, .val (.long x3), .second, .val (.int x4), .val (.int x5), .val (.long (x0 &&& (1152921504606846975 : Int64))), .second, .val (.long (x1 &&& (1152921504606846975 : Int64))), .second, .val (.long (x2 &&& (1152921504606846975 : Int64))), .second, .val (.long (x3 &&& (1152921504606846975 : Int64))), .second, .val (.int z597), .val (.int (x4 &&& (3 : Int32))), .val (.int z599), .val (.int z602), .val (.int z605), .val (.int z608), .val (.ref b611), .val (.ref r0), .val (.ref r1), .val (.long (-Va)), .second, .val (.int z639), .val (.int z642), .val (.long z645), .second, .unset, .unset, .unset, .unset, .unset, .unset, .unset, .unset, .unset, .unset, .unset, .unset, .unset, .unset, .unset, .unset, .unset] [])) (fun J645 => ?_) (fun T645 z645 X645 e645 q645 => ?_)
  · -- to pc 309
    refine own_iload X642 hx hby at_259 rfl rfl ?_
    refine own_if_eq X642 hx hby at_261 (pcY := 287) (pcN := 264) (by decide) rfl (fun (hc646 : z639 = (0 : Int32)) => ?_) (fun (hc646 : ¬ z639 = (0 : Int32)) => ?_)
    · -- pc 261: t
      have thc646 := congrArg Int32.toInt hc646
      refine own_iload X642 hx hby at_287 rfl rfl ?_
      refine own_if_eq X642 hx hby at_289 (pcY := 302) (pcN := 292) (by decide) rfl (fun (hc647 : z639 = (0 : Int32)) => ?_) (fun (hc647 : ¬ z639 = (0 : Int32)) => ?_)
      · -- pc 289: t
        have thc647 := congrArg Int32.toInt hc647
        refine own_lload X642 hx hby at_302 rfl rfl ?_
        refine own_lload X642 hx hby at_304 rfl rfl ?_
        refine own_ladd X642 hx hby at_306 rfl ?_
        refine own_lstore X642 hx hby at_307 rfl #[.val (.long x0), .second, .val (.long x1), .second, .val (.long x2), .second, .val (.long x3), .second, .val (.int x4), .val (.int x5), .val (.long (x0 &&& (1152921504606846975 : Int64))), .second, .val (.long (x1 &&& (1152921504606846975 : Int64))), .second, .val (.long (x2 &&& (1152921504606846975 : Int64))), .second, .val (.long (x3 &&& (1152921504606846975 : Int64))), .second, .val (.int z597), .val (.int (x4 &&& (3 : Int32))), .val (.int z599), .val (.int z602), .val (.int z605), .val (.int z608), .val (.ref b611), .val (.ref r0), .val (.ref r1), .val (.long (-Va)), .second, .val (.int z639), .val (.int z642), .val (.long ((x1 &&& (1152921504606846975 : Int64)) + (x2 &&& (1152921504606846975 : Int64)))), .second, .unset, .unset, .unset, .unset, .unset, .unset, .unset, .unset, .unset, .unset, .unset, .unset, .unset, .unset, .unset, .unset, .unset] rfl ?_
        exact J645 T642 ((x1 &&& (1152921504606846975 : Int64)) + (x2 &&& (1152921504606846975 : Int64))) X642 e642 (Or.inr (Or.inr ⟨thc646, rfl⟩))
      · -- pc 289: f
        have thc647 := own_nti hc647
        refine own_lload X642 hx hby at_292 rfl rfl ?_
        refine own_lload X642 hx hby at_294 rfl rfl ?_
        refine own_ladd X642 hx hby at_296 rfl ?_
        refine own_lstore X642 hx hby at_297 rfl #[.val (.long x0), .second, .val (.long x1), .second, .val (.long x2), .second, .val (.long x3), .second, .val (.int x4), .val (.int x5), .val (.long (x0 &&& (1152921504606846975 : Int64))), .second, .val (.long (x1 &&& (1152921504606846975 : Int64))), .second, .val (.long (x2 &&& (1152921504606846975 : Int64))), .second, .val (.long (x3 &&& (1152921504606846975 : Int64))), .second, .val (.int z597), .val (.int (x4 &&& (3 : Int32))), .val (.int z599), .val (.int z602), .val (.int z605), .val (.int z608), .val (.ref b611), .val (.ref r0), .val (.ref r1), .val (.long (-Va)), .second, .val (.int z639), .val (.int z642), .val (.long ((x0 &&& (1152921504606846975 : Int64)) + (x3 &&& (1152921504606846975 : Int64)))), .second, .unset, .unset, .unset, .unset, .unset, .unset, .unset, .unset, .unset, .unset, .unset, .unset, .unset, .unset, .unset, .unset, .unset] rfl ?_
        refine own_goto X642 hx hby at_299 (pc' := 309) (by decide) ?_
        exact J645 T642 ((x0 &&& (1152921504606846975 : Int64)) + (x3 &&& (1152921504606846975 : Int64))) X642 e642 (absurd thc646 thc647)
    · -- pc 261: f
      have thc646 := own_nti hc646
      refine own_iload X642 hx hby at_264 rfl rfl ?_
      refine own_if_eq X642 hx hby at_266 (pcY := 287) (pcN := 269) (by decide) rfl (fun (hc648 : z642 = (0 : Int32)) => ?_) (fun (hc648 : ¬ z642 = (0 : Int32)) => ?_)
      · -- pc 266: t
        have thc648 := congrArg Int32.toInt hc648
        refine own_iload X642 hx hby at_287 rfl rfl ?_
        refine own_if_eq X642 hx hby at_289 (pcY := 302) (pcN := 292) (by decide) rfl (fun (hc649 : z639 = (0 : Int32)) => ?_) (fun (hc649 : ¬ z639 = (0 : Int32)) => ?_)
        · -- pc 289: t
          have thc649 := congrArg Int32.toInt hc649
          refine own_lload X642 hx hby at_302 rfl rfl ?_
          refine own_lload X642 hx hby at_304 rfl rfl ?_
          refine own_ladd X642 hx hby at_306 rfl ?_
          refine own_lstore X642 hx hby at_307 rfl #[.val (.long x0), .second, .val (.long x1), .second, .val (.long x2), .second, .val (.long x3), .second, .val (.int x4), .val (.int x5), .val (.long (x0 &&& (1152921504606846975 : Int64))), .second, .val (.long (x1 &&& (1152921504606846975 : Int64))), .second, .val (.long (x2 &&& (1152921504606846975 : Int64))), .second, .val (.long (x3 &&& (1152921504606846975 : Int64))), .second, .val (.int z597), .val (.int (x4 &&& (3 : Int32))), .val (.int z599), .val (.int z602), .val (.int z605), .val (.int z608), .val (.ref b611), .val (.ref r0), .val (.ref r1), .val (.long (-Va)), .second, .val (.int z639), .val (.int z642), .val (.long ((x1 &&& (1152921504606846975 : Int64)) + (x2 &&& (1152921504606846975 : Int64)))), .second, .unset, .unset, .unset, .unset, .unset, .unset, .unset, .unset, .unset, .unset, .unset, .unset, .unset, .unset, .unset, .unset, .unset] rfl ?_
          exact J645 T642 ((x1 &&& (1152921504606846975 : Int64)) + (x2 &&& (1152921504606846975 : Int64))) X642 e642 (absurd thc649 thc646)
        · -- pc 289: f
          have thc649 := own_nti hc649
          refine own_lload X642 hx hby at_292 rfl rfl ?_
          refine own_lload X642 hx hby at_294 rfl rfl ?_
          refine own_ladd X642 hx hby at_296 rfl ?_
          refine own_lstore X642 hx hby at_297 rfl #[.val (.long x0), .second, .val (.long x1), .second, .val (.long x2), .second, .val (.long x3), .second, .val (.int x4), .val (.int x5), .val (.long (x0 &&& (1152921504606846975 : Int64))), .second, .val (.long (x1 &&& (1152921504606846975 : Int64))), .second, .val (.long (x2 &&& (1152921504606846975 : Int64))), .second, .val (.long (x3 &&& (1152921504606846975 : Int64))), .second, .val (.int z597), .val (.int (x4 &&& (3 : Int32))), .val (.int z599), .val (.int z602), .val (.int z605), .val (.int z608), .val (.ref b611), .val (.ref r0), .val (.ref r1), .val (.long (-Va)), .second, .val (.int z639), .val (.int z642), .val (.long ((x0 &&& (1152921504606846975 : Int64)) + (x3 &&& (1152921504606846975 : Int64)))), .second, .unset, .unset, .unset, .unset, .unset, .unset, .unset, .unset, .unset, .unset, .unset, .unset, .unset, .unset, .unset, .unset, .unset] rfl ?_
          refine own_goto X642 hx hby at_299 (pc' := 309) (by decide) ?_
          exact J645 T642 ((x0 &&& (1152921504606846975 : Int64)) + (x3 &&& (1152921504606846975 : Int64))) X642 e642 (Or.inr (Or.inl ⟨own_g1 q639 thc646, thc648, rfl⟩))
      · -- pc 266: f
        have thc648 := own_nti hc648
        refine own_lload X642 hx hby at_269 rfl rfl ?_
        refine own_lload X642 hx hby at_271 rfl rfl ?_
        refine own_ladd X642 hx hby at_273 rfl ?_
        refine own_lload X642 hx hby at_274 rfl rfl ?_
        refine own_lload X642 hx hby at_276 rfl rfl ?_
        refine own_ladd X642 hx hby at_278 rfl ?_
        refine own_static X642 hx hby hZ (argsL := [(.long ((x0 &&& (1152921504606846975 : Int64)) + (x3 &&& (1152921504606846975 : Int64)))), (.long ((x1 &&& (1152921504606846975 : Int64)) + (x2 &&& (1152921504606846975 : Int64))))]) (rest := []) hown (hw _ tw_57) (hw _ tw_58) (hw _ tw_59) (hw _ tw_60) (by decide) (rm10 l Z a0 hw ((x0 &&& (1152921504606846975 : Int64)) + (x3 &&& (1152921504606846975 : Int64))) ((x1 &&& (1152921504606846975 : Int64)) + (x2 &&& (1152921504606846975 : Int64))) T632.heap) e642 (by rw [hml]; rfl) pd_8 rfl (by decide) (W := 0) (Nat.le_refl _) (by decide) (by decide) (by decide) at_279 rfl rfl (fun v650 T650 L650 X650 hQ650 => ?_)
        obtain ⟨r650, rfl, rfl, e650, ma650, mb650, mc650⟩ := hQ650
        show Ends p.tables e below _ (T650.setTop (mkF m 282 #[.val (.long x0), .second, .val (.long x1), .second, .val (.long x2), .second, .val (.long x3), .second, .val (.int x4), .val (.int x5), .val (.long (x0 &&& (1152921504606846975 : Int64))), .second, .val (.long (x1 &&& (1152921504606846975 : Int64))), .second, .val (.long (x2 &&& (1152921504606846975 : Int64))), .second, .val (.long (x3 &&& (1152921504606846975 : Int64))), .second, .val (.int z597), .val (.int (x4 &&& (3 : Int32))), .val (.int z599), .val (.int z602), .val (.int z605), .val (.int z608), .val (.ref b611), .val (.ref r0), .val (.ref r1), .val (.long (-Va)), .second, .val (.int z639), .val (.int z642), .unset, .unset, .unset, .unset, .unset, .unset, .unset, .unset, .unset, .unset, .unset, .unset, .unset, .unset, .unset, .unset, .unset, .unset, .unset] [(.long r650)]))
        refine own_lstore X650 hx hby at_282 rfl #[.val (.long x0), .second, .val (.long x1), .second, .val (.long x2), .second, .val (.long x3), .second, .val (.int x4), .val (.int x5), .val (.long (x0 &&& (1152921504606846975 : Int64))), .second, .val (.long (x1 &&& (1152921504606846975 : Int64))), .second, .val (.long (x2 &&& (1152921504606846975 : Int64))), .second, .val (.long (x3 &&& (1152921504606846975 : Int64))), .second, .val (.int z597), .val (.int (x4 &&& (3 : Int32))), .val (.int z599), .val (.int z602), .val (.int z605), .val (.int z608), .val (.ref b611), .val (.ref r0), .val (.ref r1), .val (.long (-Va)), .second, .val (.int z639), .val (.int z642), .val (.long r650), .second, .unset, .unset, .unset, .unset, .unset, .unset, .unset, .unset, .unset, .unset, .unset, .unset, .unset, .unset, .unset, .unset, .unset] rfl ?_
        refine own_goto X650 hx hby at_284 (pc' := 309) (by decide) ?_
        exact J645 T650 r650 (own_nil X650) e650 (Or.inl ⟨own_g1 q639 thc646, own_g1 q642 thc648, ma650, mb650, mc650⟩)
  show Ends p.tables e below _ (T645.setTop (mkF m 309 #[.val (.long x0), .second, .val (.long x1), .second, .val (.long x2), .second, .val (.long x3), .second, .val (.int x4), .val (.int x5), .val (.long (x0 &&& (1152921504606846975 : Int64))), .second, .val (.long (x1 &&& (1152921504606846975 : Int64))), .second, .val (.long (x2 &&& (1152921504606846975 : Int64))), .second, .val (.long (x3 &&& (1152921504606846975 : Int64))), .second, .val (.int z597), .val (.int (x4 &&& (3 : Int32))), .val (.int z599), .val (.int z602), .val (.int z605), .val (.int z608), .val (.ref b611), .val (.ref r0), .val (.ref r1), .val (.long (-Va)), .second, .val (.int z639), .val (.int z642), .val (.long z645), .second, .unset, .unset, .unset, .unset, .unset, .unset, .unset, .unset, .unset, .unset, .unset, .unset, .unset, .unset, .unset, .unset, .unset] []))
  refine own_lload X645 hx hby at_309 rfl rfl ?_
  refine own_lload X645 hx hby at_311 rfl rfl ?_
  refine own_lcmp_eq X645 hx hby at_313 at_314 (pcY := 319) (pcN := 317) (by decide) rfl (fun (hc651 : (-Va) = z645) => ?_) (fun (hc651 : ¬ (-Va) = z645) => False.elim (by exact hc651 (own_l3 q616 q620 q624 q628 hc0 hc1 hc2 hc3 hD hA du1 du2 du3 du4 du5 du6 hopt q639 q642 q645)))
  refine own_joinT X645 e645 (fun z652 : Int64 => (z599.toInt = 1 ∧ z652.toInt = (x0 &&& (1152921504606846975 : Int64)).toInt - Ua.toInt - Vb.toInt) ∨ (z599.toInt = 0 ∧ z652.toInt = 0)) (fun z652 => (mkF m 335 #[.val (.long x0), .second, .val (.long x1), .second, .val (.long x2), .second, .val (.long x3), .second, .val (.int x4), .val (.int x5), .val (.long (x0 &&& (1152921504606846975 : Int64))), .second, .val (.long (x1 &&& (1152921504606846975 : Int64))), .second, .val (.long (x2 &&& (1152921504606846975 : Int64))), .second, .val (.long (x3 &&& (1152921504606846975 : Int64))), .second, .val (.int z597), .val (.int (x4 &&& (3 : Int32))), .val (.int z599), .val (.int z602), .val (.int z605), .val (.int z608), .val (.ref b611), .val (.ref r0), .val (.ref r1), .val (.long (-Va)), .second, .val (.int z639), .val (.int z642), .val (.long z645), .second, .unset, .unset, .unset, .unset, .unset, .unset, .unset, .unset, .unset, .unset, .unset, .unset, .unset, .unset, .unset, .unset, .unset] [(.long z652)])) (fun J652 => ?_) (fun T652 z652 X652 e652 q652 => ?_)
  · -- to pc 335
    refine own_iload X645 hx hby at_319 rfl rfl ?_
    refine own_if_eq X645 hx hby at_321 (pcY := 334) (pcN := 324) (by decide) rfl (fun (hc653 : z599 = (0 : Int32)) => ?_) (fun (hc653 : ¬ z599 = (0 : Int32)) => ?_)
    · -- pc 321: t
      have thc653 := congrArg Int32.toInt hc653
      refine own_lconst X645 hx hby at_334 rfl (0 : Int64) rfl ?_
      exact J652 T645 (0 : Int64) X645 e645 (Or.inr ⟨thc653, rfl⟩)
    · -- pc 321: f
      have thc653 := own_nti hc653
      refine own_aload X645 hx hby at_324 rfl rfl rfl ?_
      refine own_iconst X645 hx hby at_326 rfl (0 : Int32) rfl ?_
      refine own_iconst X645 hx hby at_327 rfl (0 : Int32) rfl ?_
      refine own_virtual X645 hx hby hZ (Cn := "com/example/weftwork/weftwork/algorithm/Assignment") (a := b611) (argsL := [(.int (0 : Int32)), (.int (0 : Int32))]) (rest := []) hown (hw _ tw_61) (hw _ tw_62) (hw _ tw_64) (hw _ tw_63) (hw _ tw_3) (hw _ tw_65) (by decide) (rmrdc00 l Z a0 hw b611 T632.heap Bq Uq Vq) (B_E Bq) e645 (by rw [hml]; rfl) pd_7 rfl (by decide) (W := 0) (Nat.le_refl _) (by decide) (by decide) (by decide) at_328 rfl rfl (fun v654 T654 L654 X654 hQ654 => ?_)
      obtain ⟨rfl, rfl, e654⟩ := hQ654
      show Ends p.tables e below _ (T654.setTop (mkF m 331 #[.val (.long x0), .second, .val (.long x1), .second, .val (.long x2), .second, .val (.long x3), .second, .val (.int x4), .val (.int x5), .val (.long (x0 &&& (1152921504606846975 : Int64))), .second, .val (.long (x1 &&& (1152921504606846975 : Int64))), .second, .val (.long (x2 &&& (1152921504606846975 : Int64))), .second, .val (.long (x3 &&& (1152921504606846975 : Int64))), .second, .val (.int z597), .val (.int (x4 &&& (3 : Int32))), .val (.int z599), .val (.int z602), .val (.int z605), .val (.int z608), .val (.ref b611), .val (.ref r0), .val (.ref r1), .val (.long (-Va)), .second, .val (.int z639), .val (.int z642), .val (.long z645), .second, .unset, .unset, .unset, .unset, .unset, .unset, .unset, .unset, .unset, .unset, .unset, .unset, .unset, .unset, .unset, .unset, .unset] [(.long (z616 - Ua - Vb))]))
      refine own_goto X654 hx hby at_331 (pc' := 335) (by decide) ?_
      exact J652 T654 (z616 - Ua - Vb) (own_nil X654) e654 (own_rcj q616 thc653 hc0 dUa dVb)
  show Ends p.tables e below _ (T652.setTop (mkF m 335 #[.val (.long x0), .second, .val (.long x1), .second, .val (.long x2), .second, .val (.long x3), .second, .val (.int x4), .val (.int x5), .val (.long (x0 &&& (1152921504606846975 : Int64))), .second, .val (.long (x1 &&& (1152921504606846975 : Int64))), .second, .val (.long (x2 &&& (1152921504606846975 : Int64))), .second, .val (.long (x3 &&& (1152921504606846975 : Int64))), .second, .val (.int z597), .val (.int (x4 &&& (3 : Int32))), .val (.int z599), .val (.int z602), .val (.int z605), .val (.int z608), .val (.ref b611), .val (.ref r0), .val (.ref r1), .val (.long (-Va)), .second, .val (.int z639), .val (.int z642), .val (.long z645), .second, .unset, .unset, .unset, .unset, .unset, .unset, .unset, .unset, .unset, .unset, .unset, .unset, .unset, .unset, .unset, .unset, .unset] [(.long z652)]))
  refine own_lstore X652 hx hby at_335 rfl #[.val (.long x0), .second, .val (.long x1), .second, .val (.long x2), .second, .val (.long x3), .second, .val (.int x4), .val (.int x5), .val (.long (x0 &&& (1152921504606846975 : Int64))), .second, .val (.long (x1 &&& (1152921504606846975 : Int64))), .second, .val (.long (x2 &&& (1152921504606846975 : Int64))), .second, .val (.long (x3 &&& (1152921504606846975 : Int64))), .second, .val (.int z597), .val (.int (x4 &&& (3 : Int32))), .val (.int z599), .val (.int z602), .val (.int z605), .val (.int z608), .val (.ref b611), .val (.ref r0), .val (.ref r1), .val (.long (-Va)), .second, .val (.int z639), .val (.int z642), .val (.long z645), .second, .val (.long z652), .second, .unset, .unset, .unset, .unset, .unset, .unset, .unset, .unset, .unset, .unset, .unset, .unset, .unset, .unset, .unset] rfl ?_
  refine own_joinT X652 e652 (fun z655 : Int64 => (z602.toInt = 1 ∧ z655.toInt = (x1 &&& (1152921504606846975 : Int64)).toInt - Ua.toInt - Vc.toInt) ∨ (z602.toInt = 0 ∧ z655.toInt = 0)) (fun z655 => (mkF m 353 #[.val (.long x0), .second, .val (.long x1), .second, .val (.long x2), .second, .val (.long x3), .second, .val (.int x4), .val (.int x5), .val (.long (x0 &&& (1152921504606846975 : Int64))), .second, .val (.long (x1 &&& (1152921504606846975 : Int64))), .second, .val (.long (x2 &&& (1152921504606846975 : Int64))), .second, .val (.long (x3 &&& (1152921504606846975 : Int64))), .second, .val (.int z597), .val (.int (x4 &&& (3 : Int32))), .val (.int z599), .val (.int z602), .val (.int z605), .val (.int z608), .val (.ref b611), .val (.ref r0), .val (.ref r1), .val (.long (-Va)), .second, .val (.int z639), .val (.int z642), .val (.long z645), .second, .val (.long z652), .second, .unset, .unset, .unset, .unset, .unset, .unset, .unset, .unset, .unset, .unset, .unset, .unset, .unset, .unset, .unset] [(.long z655)])) (fun J655 => ?_) (fun T655 z655 X655 e655 q655 => ?_)
  · -- to pc 353
    refine own_iload X652 hx hby at_337 rfl rfl ?_
    refine own_if_eq X652 hx hby at_339 (pcY := 352) (pcN := 342) (by decide) rfl (fun (hc656 : z602 = (0 : Int32)) => ?_) (fun (hc656 : ¬ z602 = (0 : Int32)) => ?_)
    · -- pc 339: t
      have thc656 := congrArg Int32.toInt hc656
      refine own_lconst X652 hx hby at_352 rfl (0 : Int64) rfl ?_
      exact J655 T652 (0 : Int64) X652 e652 (Or.inr ⟨thc656, rfl⟩)
    · -- pc 339: f
      have thc656 := own_nti hc656
      refine own_aload X652 hx hby at_342 rfl rfl rfl ?_
      refine own_iconst X652 hx hby at_344 rfl (0 : Int32) rfl ?_
      refine own_iconst X652 hx hby at_345 rfl (1 : Int32) rfl ?_
      refine own_virtual X652 hx hby hZ (Cn := "com/example/weftwork/weftwork/algorithm/Assignment") (a := b611) (argsL := [(.int (0 : Int32)), (.int (1 : Int32))]) (rest := []) hown (hw _ tw_61) (hw _ tw_62) (hw _ tw_64) (hw _ tw_63) (hw _ tw_3) (hw _ tw_65) (by decide) (rmrdc01 l Z a0 hw b611 T632.heap Bq Uq Vq) (B_E Bq) e652 (by rw [hml]; rfl) pd_7 rfl (by decide) (W := 0) (Nat.le_refl _) (by decide) (by decide) (by decide) at_346 rfl rfl (fun v657 T657 L657 X657 hQ657 => ?_)
      obtain ⟨rfl, rfl, e657⟩ := hQ657
      show Ends p.tables e below _ (T657.setTop (mkF m 349 #[.val (.long x0), .second, .val (.long x1), .second, .val (.long x2), .second, .val (.long x3), .second, .val (.int x4), .val (.int x5), .val (.long (x0 &&& (1152921504606846975 : Int64))), .second, .val (.long (x1 &&& (1152921504606846975 : Int64))), .second, .val (.long (x2 &&& (1152921504606846975 : Int64))), .second, .val (.long (x3 &&& (1152921504606846975 : Int64))), .second, .val (.int z597), .val (.int (x4 &&& (3 : Int32))), .val (.int z599), .val (.int z602), .val (.int z605), .val (.int z608), .val (.ref b611), .val (.ref r0), .val (.ref r1), .val (.long (-Va)), .second, .val (.int z639), .val (.int z642), .val (.long z645), .second, .val (.long z652), .second, .unset, .unset, .unset, .unset, .unset, .unset, .unset, .unset, .unset, .unset, .unset, .unset, .unset, .unset, .unset] [(.long (z620 - Ua - Vc))]))
      refine own_goto X657 hx hby at_349 (pc' := 353) (by decide) ?_
      exact J655 T657 (z620 - Ua - Vc) (own_nil X657) e657 (own_rcj q620 thc656 hc1 dUa dVc)
  show Ends p.tables e below _ (T655.setTop (mkF m 353 #[.val (.long x0), .second, .val (.long x1), .second, .val (.long x2), .second, .val (.long x3), .second, .val (.int x4), .val (.int x5), .val (.long (x0 &&& (1152921504606846975 : Int64))), .second, .val (.long (x1 &&& (1152921504606846975 : Int64))), .second, .val (.long (x2 &&& (1152921504606846975 : Int64))), .second, .val (.long (x3 &&& (1152921504606846975 : Int64))), .second, .val (.int z597), .val (.int (x4 &&& (3 : Int32))), .val (.int z599), .val (.int z602), .val (.int z605), .val (.int z608), .val (.ref b611), .val (.ref r0), .val (.ref r1), .val (.long (-Va)), .second, .val (.int z639), .val (.int z642), .val (.long z645), .second, .val (.long z652), .second, .unset, .unset, .unset, .unset, .unset, .unset, .unset, .unset, .unset, .unset, .unset, .unset, .unset, .unset, .unset] [(.long z655)]))
  refine own_lstore X655 hx hby at_353 rfl #[.val (.long x0), .second, .val (.long x1), .second, .val (.long x2), .second, .val (.long x3), .second, .val (.int x4), .val (.int x5), .val (.long (x0 &&& (1152921504606846975 : Int64))), .second, .val (.long (x1 &&& (1152921504606846975 : Int64))), .second, .val (.long (x2 &&& (1152921504606846975 : Int64))), .second, .val (.long (x3 &&& (1152921504606846975 : Int64))), .second, .val (.int z597), .val (.int (x4 &&& (3 : Int32))), .val (.int z599), .val (.int z602), .val (.int z605), .val (.int z608), .val (.ref b611), .val (.ref r0), .val (.ref r1), .val (.long (-Va)), .second, .val (.int z639), .val (.int z642), .val (.long z645), .second, .val (.long z652), .second, .val (.long z655), .second, .unset, .unset, .unset, .unset, .unset, .unset, .unset, .unset, .unset, .unset, .unset, .unset, .unset] rfl ?_
  refine own_joinT X655 e655 (fun z658 : Int64 => (z605.toInt = 1 ∧ z658.toInt = (x2 &&& (1152921504606846975 : Int64)).toInt - Ub.toInt - Vb.toInt) ∨ (z605.toInt = 0 ∧ z658.toInt = 0)) (fun z658 => (mkF m 371 #[.val (.long x0), .second, .val (.long x1), .second, .val (.long x2), .second, .val (.long x3), .second, .val (.int x4), .val (.int x5), .val (.long (x0 &&& (1152921504606846975 : Int64))), .second, .val (.long (x1 &&& (1152921504606846975 : Int64))), .second, .val (.long (x2 &&& (1152921504606846975 : Int64))), .second, .val (.long (x3 &&& (1152921504606846975 : Int64))), .second, .val (.int z597), .val (.int (x4 &&& (3 : Int32))), .val (.int z599), .val (.int z602), .val (.int z605), .val (.int z608), .val (.ref b611), .val (.ref r0), .val (.ref r1), .val (.long (-Va)), .second, .val (.int z639), .val (.int z642), .val (.long z645), .second, .val (.long z652), .second, .val (.long z655), .second, .unset, .unset, .unset, .unset, .unset, .unset, .unset, .unset, .unset, .unset, .unset, .unset, .unset] [(.long z658)])) (fun J658 => ?_) (fun T658 z658 X658 e658 q658 => ?_)
  · -- to pc 371
    refine own_iload X655 hx hby at_355 rfl rfl ?_
    refine own_if_eq X655 hx hby at_357 (pcY := 370) (pcN := 360) (by decide) rfl (fun (hc659 : z605 = (0 : Int32)) => ?_) (fun (hc659 : ¬ z605 = (0 : Int32)) => ?_)
    · -- pc 357: t
      have thc659 := congrArg Int32.toInt hc659
      refine own_lconst X655 hx hby at_370 rfl (0 : Int64) rfl ?_
      exact J658 T655 (0 : Int64) X655 e655 (Or.inr ⟨thc659, rfl⟩)
    · -- pc 357: f
      have thc659 := own_nti hc659
      refine own_aload X655 hx hby at_360 rfl rfl rfl ?_
      refine own_iconst X655 hx hby at_362 rfl (1 : Int32) rfl ?_
      refine own_iconst X655 hx hby at_363 rfl (0 : Int32) rfl ?_
      refine own_virtual X655 hx hby hZ (Cn := "com/example/weftwork/weftwork/algorithm/Assignment") (a := b611) (argsL := [(.int (1 : Int32)), (.int (0 : Int32))]) (rest := []) hown (hw _ tw_61) (hw _ tw_62) (hw _ tw_64) (hw _ tw_63) (hw _ tw_3) (hw _ tw_65) (by decide) (rmrdc10 l Z a0 hw b611 T632.heap Bq Uq Vq) (B_E Bq) e655 (by rw [hml]; rfl) pd_7 rfl (by decide) (W := 0) (Nat.le_refl _) (by decide) (by decide) (by decide) at_364 rfl rfl (fun v660 T660 L660 X660 hQ660 => ?_)
      obtain ⟨rfl, rfl, e660⟩ := hQ660
      show Ends p.tables e below _ (T660.setTop (mkF m 367 #[.val (.long x0), .second, .val (.long x1), .second, .val (.long x2), .second, .val (.long x3), .second, .val (.int x4), .val (.int x5), .val (.long (x0 &&& (1152921504606846975 : Int64))), .second, .val (.long (x1 &&& (1152921504606846975 : Int64))), .second, .val (.long (x2 &&& (1152921504606846975 : Int64))), .second, .val (.long (x3 &&& (1152921504606846975 : Int64))), .second, .val (.int z597), .val (.int (x4 &&& (3 : Int32))), .val (.int z599), .val (.int z602), .val (.int z605), .val (.int z608), .val (.ref b611), .val (.ref r0), .val (.ref r1), .val (.long (-Va)), .second, .val (.int z639), .val (.int z642), .val (.long z645), .second, .val (.long z652), .second, .val (.long z655), .second, .unset, .unset, .unset, .unset, .unset, .unset, .unset, .unset, .unset, .unset, .unset, .unset, .unset] [(.long (z624 - Ub - Vb))]))
      refine own_goto X660 hx hby at_367 (pc' := 371) (by decide) ?_
      exact J658 T660 (z624 - Ub - Vb) (own_nil X660) e660 (own_rcj q624 thc659 hc2 dUb dVb)
  show Ends p.tables e below _ (T658.setTop (mkF m 371 #[.val (.long x0), .second, .val (.long x1), .second, .val (.long x2), .second, .val (.long x3), .second, .val (.int x4), .val (.int x5), .val (.long (x0 &&& (1152921504606846975 : Int64))), .second, .val (.long (x1 &&& (1152921504606846975 : Int64))), .second, .val (.long (x2 &&& (1152921504606846975 : Int64))), .second, .val (.long (x3 &&& (1152921504606846975 : Int64))), .second, .val (.int z597), .val (.int (x4 &&& (3 : Int32))), .val (.int z599), .val (.int z602), .val (.int z605), .val (.int z608), .val (.ref b611), .val (.ref r0), .val (.ref r1), .val (.long (-Va)), .second, .val (.int z639), .val (.int z642), .val (.long z645), .second, .val (.long z652), .second, .val (.long z655), .second, .unset, .unset, .unset, .unset, .unset, .unset, .unset, .unset, .unset, .unset, .unset, .unset, .unset] [(.long z658)]))
  refine own_lstore X658 hx hby at_371 rfl #[.val (.long x0), .second, .val (.long x1), .second, .val (.long x2), .second, .val (.long x3), .second, .val (.int x4), .val (.int x5), .val (.long (x0 &&& (1152921504606846975 : Int64))), .second, .val (.long (x1 &&& (1152921504606846975 : Int64))), .second, .val (.long (x2 &&& (1152921504606846975 : Int64))), .second, .val (.long (x3 &&& (1152921504606846975 : Int64))), .second, .val (.int z597), .val (.int (x4 &&& (3 : Int32))), .val (.int z599), .val (.int z602), .val (.int z605), .val (.int z608), .val (.ref b611), .val (.ref r0), .val (.ref r1), .val (.long (-Va)), .second, .val (.int z639), .val (.int z642), .val (.long z645), .second, .val (.long z652), .second, .val (.long z655), .second, .val (.long z658), .second, .unset, .unset, .unset, .unset, .unset, .unset, .unset, .unset, .unset, .unset, .unset] rfl ?_
  refine own_joinT X658 e658 (fun z661 : Int64 => (z608.toInt = 1 ∧ z661.toInt = (x3 &&& (1152921504606846975 : Int64)).toInt - Ub.toInt - Vc.toInt) ∨ (z608.toInt = 0 ∧ z661.toInt = 0)) (fun z661 => (mkF m 389 #[.val (.long x0), .second, .val (.long x1), .second, .val (.long x2), .second, .val (.long x3), .second, .val (.int x4), .val (.int x5), .val (.long (x0 &&& (1152921504606846975 : Int64))), .second, .val (.long (x1 &&& (1152921504606846975 : Int64))), .second, .val (.long (x2 &&& (1152921504606846975 : Int64))), .second, .val (.long (x3 &&& (1152921504606846975 : Int64))), .second, .val (.int z597), .val (.int (x4 &&& (3 : Int32))), .val (.int z599), .val (.int z602), .val (.int z605), .val (.int z608), .val (.ref b611), .val (.ref r0), .val (.ref r1), .val (.long (-Va)), .second, .val (.int z639), .val (.int z642), .val (.long z645), .second, .val (.long z652), .second, .val (.long z655), .second, .val (.long z658), .second, .unset, .unset, .unset, .unset, .unset, .unset, .unset, .unset, .unset, .unset, .unset] [(.long z661)])) (fun J661 => ?_) (fun T661 z661 X661 e661 q661 => ?_)
  · -- to pc 389
    refine own_iload X658 hx hby at_373 rfl rfl ?_
    refine own_if_eq X658 hx hby at_375 (pcY := 388) (pcN := 378) (by decide) rfl (fun (hc662 : z608 = (0 : Int32)) => ?_) (fun (hc662 : ¬ z608 = (0 : Int32)) => ?_)
    · -- pc 375: t
      have thc662 := congrArg Int32.toInt hc662
      refine own_lconst X658 hx hby at_388 rfl (0 : Int64) rfl ?_
      exact J661 T658 (0 : Int64) X658 e658 (Or.inr ⟨thc662, rfl⟩)
    · -- pc 375: f
      have thc662 := own_nti hc662
      refine own_aload X658 hx hby at_378 rfl rfl rfl ?_
      refine own_iconst X658 hx hby at_380 rfl (1 : Int32) rfl ?_
      refine own_iconst X658 hx hby at_381 rfl (1 : Int32) rfl ?_
      refine own_virtual X658 hx hby hZ (Cn := "com/example/weftwork/weftwork/algorithm/Assignment") (a := b611) (argsL := [(.int (1 : Int32)), (.int (1 : Int32))]) (rest := []) hown (hw _ tw_61) (hw _ tw_62) (hw _ tw_64) (hw _ tw_63) (hw _ tw_3) (hw _ tw_65) (by decide) (rmrdc11 l Z a0 hw b611 T632.heap Bq Uq Vq) (B_E Bq) e658 (by rw [hml]; rfl) pd_7 rfl (by decide) (W := 0) (Nat.le_refl _) (by decide) (by decide) (by decide) at_382 rfl rfl (fun v663 T663 L663 X663 hQ663 => ?_)
      obtain ⟨rfl, rfl, e663⟩ := hQ663
      show Ends p.tables e below _ (T663.setTop (mkF m 385 #[.val (.long x0), .second, .val (.long x1), .second, .val (.long x2), .second, .val (.long x3), .second, .val (.int x4), .val (.int x5), .val (.long (x0 &&& (1152921504606846975 : Int64))), .second, .val (.long (x1 &&& (1152921504606846975 : Int64))), .second, .val (.long (x2 &&& (1152921504606846975 : Int64))), .second, .val (.long (x3 &&& (1152921504606846975 : Int64))), .second, .val (.int z597), .val (.int (x4 &&& (3 : Int32))), .val (.int z599), .val (.int z602), .val (.int z605), .val (.int z608), .val (.ref b611), .val (.ref r0), .val (.ref r1), .val (.long (-Va)), .second, .val (.int z639), .val (.int z642), .val (.long z645), .second, .val (.long z652), .second, .val (.long z655), .second, .val (.long z658), .second, .unset, .unset, .unset, .unset, .unset, .unset, .unset, .unset, .unset, .unset, .unset] [(.long (z628 - Ub - Vc))]))
      refine own_goto X663 hx hby at_385 (pc' := 389) (by decide) ?_
      exact J661 T663 (z628 - Ub - Vc) (own_nil X663) e663 (own_rcj q628 thc662 hc3 dUb dVc)
  show Ends p.tables e below _ (T661.setTop (mkF m 389 #[.val (.long x0), .second, .val (.long x1), .second, .val (.long x2), .second, .val (.long x3), .second, .val (.int x4), .val (.int x5), .val (.long (x0 &&& (1152921504606846975 : Int64))), .second, .val (.long (x1 &&& (1152921504606846975 : Int64))), .second, .val (.long (x2 &&& (1152921504606846975 : Int64))), .second, .val (.long (x3 &&& (1152921504606846975 : Int64))), .second, .val (.int z597), .val (.int (x4 &&& (3 : Int32))), .val (.int z599), .val (.int z602), .val (.int z605), .val (.int z608), .val (.ref b611), .val (.ref r0), .val (.ref r1), .val (.long (-Va)), .second, .val (.int z639), .val (.int z642), .val (.long z645), .second, .val (.long z652), .second, .val (.long z655), .second, .val (.long z658), .second, .unset, .unset, .unset, .unset, .unset, .unset, .unset, .unset, .unset, .unset, .unset] [(.long z661)]))
  refine own_lstore X661 hx hby at_389 rfl #[.val (.long x0), .second, .val (.long x1), .second, .val (.long x2), .second, .val (.long x3), .second, .val (.int x4), .val (.int x5), .val (.long (x0 &&& (1152921504606846975 : Int64))), .second, .val (.long (x1 &&& (1152921504606846975 : Int64))), .second, .val (.long (x2 &&& (1152921504606846975 : Int64))), .second, .val (.long (x3 &&& (1152921504606846975 : Int64))), .second, .val (.int z597), .val (.int (x4 &&& (3 : Int32))), .val (.int z599), .val (.int z602), .val (.int z605), .val (.int z608), .val (.ref b611), .val (.ref r0), .val (.ref r1), .val (.long (-Va)), .second, .val (.int z639), .val (.int z642), .val (.long z645), .second, .val (.long z652), .second, .val (.long z655), .second, .val (.long z658), .second, .val (.long z661), .second, .unset, .unset, .unset, .unset, .unset, .unset, .unset, .unset, .unset] rfl ?_
  refine own_lload X661 hx hby at_391 rfl rfl ?_
  refine own_lconst X661 hx hby at_393 rfl (0 : Int64) rfl ?_
  refine own_lcmp_lt X661 hx hby at_394 at_395 (pcY := 419) (pcN := 398) (by decide) rfl (fun (hc664 : z652.toInt < 0) => False.elim (by exact absurd hc664 (Int.not_lt.mpr (own_l4 q616 hc0 q652 du1)))) (fun (hc664 : 0 ≤ z652.toInt) => ?_)
  refine own_lload X661 hx hby at_398 rfl rfl ?_
  refine own_lconst X661 hx hby at_400 rfl (0 : Int64) rfl ?_
  refine own_lcmp_lt X661 hx hby at_401 at_402 (pcY := 419) (pcN := 405) (by decide) rfl (fun (hc665 : z655.toInt < 0) => False.elim (by exact absurd hc665 (Int.not_lt.mpr (own_l4 q620 hc1 q655 du2)))) (fun (hc665 : 0 ≤ z655.toInt) => ?_)
  refine own_lload X661 hx hby at_405 rfl rfl ?_
  refine own_lconst X661 hx hby at_407 rfl (0 : Int64) rfl ?_
  refine own_lcmp_lt X661 hx hby at_408 at_409 (pcY := 419) (pcN := 412) (by decide) rfl (fun (hc666 : z658.toInt < 0) => False.elim (by exact absurd hc666 (Int.not_lt.mpr (own_l4 q624 hc2 q658 du3)))) (fun (hc666 : 0 ≤ z658.toInt) => ?_)
  refine own_lload X661 hx hby at_412 rfl rfl ?_
  refine own_lconst X661 hx hby at_414 rfl (0 : Int64) rfl ?_
  refine own_lcmp_ge X661 hx hby at_415 at_416 (pcY := 421) (pcN := 419) (by decide) rfl (fun (hc667 : 0 ≤ z661.toInt) => ?_) (fun (hc667 : z661.toInt < 0) => False.elim (by exact absurd hc667 (Int.not_lt.mpr (own_l4 q628 hc3 q661 du4))))
  refine own_joinT X661 e661 (fun z668 : Int32 => z668.toInt = 1 ∨ (z668.toInt = 0 ∧ (z639.toInt = 0 ∨ z652.toInt ≠ 0 ∨ z661.toInt ≠ 0 ∨ ((x0 &&& (1152921504606846975 : Int64)) + (x3 &&& (1152921504606846975 : Int64))).toInt ≠ (-Va).toInt))) (fun z668 => (mkF m 458 #[.val (.long x0), .second, .val (.long x1), .second, .val (.long x2), .second, .val (.long x3), .second, .val (.int x4), .val (.int x5), .val (.long (x0 &&& (1152921504606846975 : Int64))), .second, .val (.long (x1 &&& (1152921504606846975 : Int64))), .second, .val (.long (x2 &&& (1152921504606846975 : Int64))), .second, .val (.long (x3 &&& (1152921504606846975 : Int64))), .second, .val (.int z597), .val (.int (x4 &&& (3 : Int32))), .val (.int z599), .val (.int z602), .val (.int z605), .val (.int z608), .val (.ref b611), .val (.ref r0), .val (.ref r1), .val (.long (-Va)), .second, .val (.int z639), .val (.int z642), .val (.long z645), .second, .val (.long z652), .second, .val (.long z655), .second, .val (.long z658), .second, .val (.long z661), .second, .val (.int z668), .unset, .unset, .unset, .unset, .unset, .unset, .unset, .unset] [])) (fun J668 => ?_) (fun T668 z668 X668 e668 q668 => ?_)
  · -- to pc 458
    refine own_iload X661 hx hby at_421 rfl rfl ?_
    refine own_if_eq X661 hx hby at_423 (pcY := 455) (pcN := 426) (by decide) rfl (fun (hc669 : z639 = (0 : Int32)) => ?_) (fun (hc669 : ¬ z639 = (0 : Int32)) => ?_)
    · -- pc 423: t
      have thc669 := congrArg Int32.toInt hc669
      refine own_iconst X661 hx hby at_455 rfl (0 : Int32) rfl ?_
      refine own_istore X661 hx hby at_456 rfl #[.val (.long x0), .second, .val (.long x1), .second, .val (.long x2), .second, .val (.long x3), .second, .val (.int x4), .val (.int x5), .val (.long (x0 &&& (1152921504606846975 : Int64))), .second, .val (.long (x1 &&& (1152921504606846975 : Int64))), .second, .val (.long (x2 &&& (1152921504606846975 : Int64))), .second, .val (.long (x3 &&& (1152921504606846975 : Int64))), .second, .val (.int z597), .val (.int (x4 &&& (3 : Int32))), .val (.int z599), .val (.int z602), .val (.int z605), .val (.int z608), .val (.ref b611), .val (.ref r0), .val (.ref r1), .val (.long (-Va)), .second, .val (.int z639), .val (.int z642), .val (.long z645), .second, .val (.long z652), .second, .val (.long z655), .second, .val (.long z658), .second, .val (.long z661), .second, .val (.int (0 : Int32)), .unset, .unset, .unset, .unset, .unset, .unset, .unset, .unset] rfl ?_
      exact J668 T661 (0 : Int32) X661 e661 (Or.inr ⟨rfl, Or.inl thc669⟩)
    · -- pc 423: f
      have thc669 := own_nti hc669
      refine own_lload X661 hx hby at_426 rfl rfl ?_
      refine own_lconst X661 hx hby at_428 rfl (0 : Int64) rfl ?_
      refine own_lcmp_ne X661 hx hby at_429 at_430 (pcY := 455) (pcN := 433) (by decide) rfl (fun (hc670 : ¬ z652 = (0 : Int64)) => ?_) (fun (hc670 : z652 = (0 : Int64)) => ?_)
      · -- pc 429: t
        have thc670 := own_ntl hc670
        refine own_iconst X661 hx hby at_455 rfl (0 : Int32) rfl ?_
        refine own_istore X661 hx hby at_456 rfl #[.val (.long x0), .second, .val (.long x1), .second, .val (.long x2), .second, .val (.long x3), .second, .val (.int x4), .val (.int x5), .val (.long (x0 &&& (1152921504606846975 : Int64))), .second, .val (.long (x1 &&& (1152921504606846975 : Int64))), .second, .val (.long (x2 &&& (1152921504606846975 : Int64))), .second, .val (.long (x3 &&& (1152921504606846975 : Int64))), .second, .val (.int z597), .val (.int (x4 &&& (3 : Int32))), .val (.int z599), .val (.int z602), .val (.int z605), .val (.int z608), .val (.ref b611), .val (.ref r0), .val (.ref r1), .val (.long (-Va)), .second, .val (.int z639), .val (.int z642), .val (.long z645), .second, .val (.long z652), .second, .val (.long z655), .second, .val (.long z658), .second, .val (.long z661), .second, .val (.int (0 : Int32)), .unset, .unset, .unset, .unset, .unset, .unset, .unset, .unset] rfl ?_
        exact J668 T661 (0 : Int32) X661 e661 (Or.inr ⟨rfl, Or.inr (Or.inl thc670)⟩)
      · -- pc 429: f
        have thc670 := congrArg Int64.toInt hc670
        refine own_lload X661 hx hby at_433 rfl rfl ?_
        refine own_lconst X661 hx hby at_435 rfl (0 : Int64) rfl ?_
        refine own_lcmp_ne X661 hx hby at_436 at_437 (pcY := 455) (pcN := 440) (by decide) rfl (fun (hc671 : ¬ z661 = (0 : Int64)) => ?_) (fun (hc671 : z661 = (0 : Int64)) => ?_)
        · -- pc 436: t
          have thc671 := own_ntl hc671
          refine own_iconst X661 hx hby at_455 rfl (0 : Int32) rfl ?_
          refine own_istore X661 hx hby at_456 rfl #[.val (.long x0), .second, .val (.long x1), .second, .val (.long x2), .second, .val (.long x3), .second, .val (.int x4), .val (.int x5), .val (.long (x0 &&& (1152921504606846975 : Int64))), .second, .val (.long (x1 &&& (1152921504606846975 : Int64))), .second, .val (.long (x2 &&& (1152921504606846975 : Int64))), .second, .val (.long (x3 &&& (1152921504606846975 : Int64))), .second, .val (.int z597), .val (.int (x4 &&& (3 : Int32))), .val (.int z599), .val (.int z602), .val (.int z605), .val (.int z608), .val (.ref b611), .val (.ref r0), .val (.ref r1), .val (.long (-Va)), .second, .val (.int z639), .val (.int z642), .val (.long z645), .second, .val (.long z652), .second, .val (.long z655), .second, .val (.long z658), .second, .val (.long z661), .second, .val (.int (0 : Int32)), .unset, .unset, .unset, .unset, .unset, .unset, .unset, .unset] rfl ?_
          exact J668 T661 (0 : Int32) X661 e661 (Or.inr ⟨rfl, Or.inr (Or.inr (Or.inl thc671))⟩)
        · -- pc 436: f
          have thc671 := congrArg Int64.toInt hc671
          refine own_lload X661 hx hby at_440 rfl rfl ?_
          refine own_lload X661 hx hby at_442 rfl rfl ?_
          refine own_ladd X661 hx hby at_444 rfl ?_
          refine own_lload X661 hx hby at_445 rfl rfl ?_
          refine own_lcmp_ne X661 hx hby at_447 at_448 (pcY := 455) (pcN := 451) (by decide) rfl (fun (hc672 : ¬ ((x0 &&& (1152921504606846975 : Int64)) + (x3 &&& (1152921504606846975 : Int64))) = (-Va)) => ?_) (fun (hc672 : ((x0 &&& (1152921504606846975 : Int64)) + (x3 &&& (1152921504606846975 : Int64))) = (-Va)) => ?_)
          · -- pc 447: t
            have thc672 := own_ntl hc672
            refine own_iconst X661 hx hby at_455 rfl (0 : Int32) rfl ?_
            refine own_istore X661 hx hby at_456 rfl #[.val (.long x0), .second, .val (.long x1), .second, .val (.long x2), .second, .val (.long x3), .second, .val (.int x4), .val (.int x5), .val (.long (x0 &&& (1152921504606846975 : Int64))), .second, .val (.long (x1 &&& (1152921504606846975 : Int64))), .second, .val (.long (x2 &&& (1152921504606846975 : Int64))), .second, .val (.long (x3 &&& (1152921504606846975 : Int64))), .second, .val (.int z597), .val (.int (x4 &&& (3 : Int32))), .val (.int z599), .val (.int z602), .val (.int z605), .val (.int z608), .val (.ref b611), .val (.ref r0), .val (.ref r1), .val (.long (-Va)), .second, .val (.int z639), .val (.int z642), .val (.long z645), .second, .val (.long z652), .second, .val (.long z655), .second, .val (.long z658), .second, .val (.long z661), .second, .val (.int (0 : Int32)), .unset, .unset, .unset, .unset, .unset, .unset, .unset, .unset] rfl ?_
            exact J668 T661 (0 : Int32) X661 e661 (Or.inr ⟨rfl, Or.inr (Or.inr (Or.inr thc672))⟩)
          · -- pc 447: f
            have thc672 := congrArg Int64.toInt hc672
            refine own_iconst X661 hx hby at_451 rfl (1 : Int32) rfl ?_
            refine own_goto X661 hx hby at_452 (pc' := 456) (by decide) ?_
            refine own_istore X661 hx hby at_456 rfl #[.val (.long x0), .second, .val (.long x1), .second, .val (.long x2), .second, .val (.long x3), .second, .val (.int x4), .val (.int x5), .val (.long (x0 &&& (1152921504606846975 : Int64))), .second, .val (.long (x1 &&& (1152921504606846975 : Int64))), .second, .val (.long (x2 &&& (1152921504606846975 : Int64))), .second, .val (.long (x3 &&& (1152921504606846975 : Int64))), .second, .val (.int z597), .val (.int (x4 &&& (3 : Int32))), .val (.int z599), .val (.int z602), .val (.int z605), .val (.int z608), .val (.ref b611), .val (.ref r0), .val (.ref r1), .val (.long (-Va)), .second, .val (.int z639), .val (.int z642), .val (.long z645), .second, .val (.long z652), .second, .val (.long z655), .second, .val (.long z658), .second, .val (.long z661), .second, .val (.int (1 : Int32)), .unset, .unset, .unset, .unset, .unset, .unset, .unset, .unset] rfl ?_
            exact J668 T661 (1 : Int32) X661 e661 (Or.inl rfl)
  show Ends p.tables e below _ (T668.setTop (mkF m 458 #[.val (.long x0), .second, .val (.long x1), .second, .val (.long x2), .second, .val (.long x3), .second, .val (.int x4), .val (.int x5), .val (.long (x0 &&& (1152921504606846975 : Int64))), .second, .val (.long (x1 &&& (1152921504606846975 : Int64))), .second, .val (.long (x2 &&& (1152921504606846975 : Int64))), .second, .val (.long (x3 &&& (1152921504606846975 : Int64))), .second, .val (.int z597), .val (.int (x4 &&& (3 : Int32))), .val (.int z599), .val (.int z602), .val (.int z605), .val (.int z608), .val (.ref b611), .val (.ref r0), .val (.ref r1), .val (.long (-Va)), .second, .val (.int z639), .val (.int z642), .val (.long z645), .second, .val (.long z652), .second, .val (.long z655), .second, .val (.long z658), .second, .val (.long z661), .second, .val (.int z668), .unset, .unset, .unset, .unset, .unset, .unset, .unset, .unset] []))
  refine own_joinT X668 e668 (fun z673 : Int32 => z673.toInt = 1 ∨ (z673.toInt = 0 ∧ (z642.toInt = 0 ∨ z655.toInt ≠ 0 ∨ z658.toInt ≠ 0 ∨ ((x1 &&& (1152921504606846975 : Int64)) + (x2 &&& (1152921504606846975 : Int64))).toInt ≠ (-Va).toInt))) (fun z673 => (mkF m 495 #[.val (.long x0), .second, .val (.long x1), .second, .val (.long x2), .second, .val (.long x3), .second, .val (.int x4), .val (.int x5), .val (.long (x0 &&& (1152921504606846975 : Int64))), .second, .val (.long (x1 &&& (1152921504606846975 : Int64))), .second, .val (.long (x2 &&& (1152921504606846975 : Int64))), .second, .val (.long (x3 &&& (1152921504606846975 : Int64))), .second, .val (.int z597), .val (.int (x4 &&& (3 : Int32))), .val (.int z599), .val (.int z602), .val (.int z605), .val (.int z608), .val (.ref b611), .val (.ref r0), .val (.ref r1), .val (.long (-Va)), .second, .val (.int z639), .val (.int z642), .val (.long z645), .second, .val (.long z652), .second, .val (.long z655), .second, .val (.long z658), .second, .val (.long z661), .second, .val (.int z668), .val (.int z673), .unset, .unset, .unset, .unset, .unset, .unset, .unset] [])) (fun J673 => ?_) (fun T673 z673 X673 e673 q673 => ?_)
  · -- to pc 495
    refine own_iload X668 hx hby at_458 rfl rfl ?_
    refine own_if_eq X668 hx hby at_460 (pcY := 492) (pcN := 463) (by decide) rfl (fun (hc674 : z642 = (0 : Int32)) => ?_) (fun (hc674 : ¬ z642 = (0 : Int32)) => ?_)
    · -- pc 460: t
      have thc674 := congrArg Int32.toInt hc674
      refine own_iconst X668 hx hby at_492 rfl (0 : Int32) rfl ?_
      refine own_istore X668 hx hby at_493 rfl #[.val (.long x0), .second, .val (.long x1), .second, .val (.long x2), .second, .val (.long x3), .second, .val (.int x4), .val (.int x5), .val (.long (x0 &&& (1152921504606846975 : Int64))), .second, .val (.long (x1 &&& (1152921504606846975 : Int64))), .second, .val (.long (x2 &&& (1152921504606846975 : Int64))), .second, .val (.long (x3 &&& (1152921504606846975 : Int64))), .second, .val (.int z597), .val (.int (x4 &&& (3 : Int32))), .val (.int z599), .val (.int z602), .val (.int z605), .val (.int z608), .val (.ref b611), .val (.ref r0), .val (.ref r1), .val (.long (-Va)), .second, .val (.int z639), .val (.int z642), .val (.long z645), .second, .val (.long z652), .second, .val (.long z655), .second, .val (.long z658), .second, .val (.long z661), .second, .val (.int z668), .val (.int (0 : Int32)), .unset, .unset, .unset, .unset, .unset, .unset, .unset] rfl ?_
      exact J673 T668 (0 : Int32) X668 e668 (Or.inr ⟨rfl, Or.inl thc674⟩)
    · -- pc 460: f
      have thc674 := own_nti hc674
      refine own_lload X668 hx hby at_463 rfl rfl ?_
      refine own_lconst X668 hx hby at_465 rfl (0 : Int64) rfl ?_
      refine own_lcmp_ne X668 hx hby at_466 at_467 (pcY := 492) (pcN := 470) (by decide) rfl (fun (hc675 : ¬ z655 = (0 : Int64)) => ?_) (fun (hc675 : z655 = (0 : Int64)) => ?_)
      · -- pc 466: t
        have thc675 := own_ntl hc675
        refine own_iconst X668 hx hby at_492 rfl (0 : Int32) rfl ?_
        refine own_istore X668 hx hby at_493 rfl #[.val (.long x0), .second, .val (.long x1), .second, .val (.long x2), .second, .val (.long x3), .second, .val (.int x4), .val (.int x5), .val (.long (x0 &&& (1152921504606846975 : Int64))), .second, .val (.long (x1 &&& (1152921504606846975 : Int64))), .second, .val (.long (x2 &&& (1152921504606846975 : Int64))), .second, .val (.long (x3 &&& (1152921504606846975 : Int64))), .second, .val (.int z597), .val (.int (x4 &&& (3 : Int32))), .val (.int z599), .val (.int z602), .val (.int z605), .val (.int z608), .val (.ref b611), .val (.ref r0), .val (.ref r1), .val (.long (-Va)), .second, .val (.int z639), .val (.int z642), .val (.long z645), .second, .val (.long z652), .second, .val (.long z655), .second, .val (.long z658), .second, .val (.long z661), .second, .val (.int z668), .val (.int (0 : Int32)), .unset, .unset, .unset, .unset, .unset, .unset, .unset] rfl ?_
        exact J673 T668 (0 : Int32) X668 e668 (Or.inr ⟨rfl, Or.inr (Or.inl thc675)⟩)
      · -- pc 466: f
        have thc675 := congrArg Int64.toInt hc675
        refine own_lload X668 hx hby at_470 rfl rfl ?_
        refine own_lconst X668 hx hby at_472 rfl (0 : Int64) rfl ?_
        refine own_lcmp_ne X668 hx hby at_473 at_474 (pcY := 492) (pcN := 477) (by decide) rfl (fun (hc676 : ¬ z658 = (0 : Int64)) => ?_) (fun (hc676 : z658 = (0 : Int64)) => ?_)
        · -- pc 473: t
          have thc676 := own_ntl hc676
          refine own_iconst X668 hx hby at_492 rfl (0 : Int32) rfl ?_
          refine own_istore X668 hx hby at_493 rfl #[.val (.long x0), .second, .val (.long x1), .second, .val (.long x2), .second, .val (.long x3), .second, .val (.int x4), .val (.int x5), .val (.long (x0 &&& (1152921504606846975 : Int64))), .second, .val (.long (x1 &&& (1152921504606846975 : Int64))), .second, .val (.long (x2 &&& (1152921504606846975 : Int64))), .second, .val (.long (x3 &&& (1152921504606846975 : Int64))), .second, .val (.int z597), .val (.int (x4 &&& (3 : Int32))), .val (.int z599), .val (.int z602), .val (.int z605), .val (.int z608), .val (.ref b611), .val (.ref r0), .val (.ref r1), .val (.long (-Va)), .second, .val (.int z639), .val (.int z642), .val (.long z645), .second, .val (.long z652), .second, .val (.long z655), .second, .val (.long z658), .second, .val (.long z661), .second, .val (.int z668), .val (.int (0 : Int32)), .unset, .unset, .unset, .unset, .unset, .unset, .unset] rfl ?_
          exact J673 T668 (0 : Int32) X668 e668 (Or.inr ⟨rfl, Or.inr (Or.inr (Or.inl thc676))⟩)
        · -- pc 473: f
          have thc676 := congrArg Int64.toInt hc676
          refine own_lload X668 hx hby at_477 rfl rfl ?_
          refine own_lload X668 hx hby at_479 rfl rfl ?_
          refine own_ladd X668 hx hby at_481 rfl ?_
          refine own_lload X668 hx hby at_482 rfl rfl ?_
          refine own_lcmp_ne X668 hx hby at_484 at_485 (pcY := 492) (pcN := 488) (by decide) rfl (fun (hc677 : ¬ ((x1 &&& (1152921504606846975 : Int64)) + (x2 &&& (1152921504606846975 : Int64))) = (-Va)) => ?_) (fun (hc677 : ((x1 &&& (1152921504606846975 : Int64)) + (x2 &&& (1152921504606846975 : Int64))) = (-Va)) => ?_)
          · -- pc 484: t
            have thc677 := own_ntl hc677
            refine own_iconst X668 hx hby at_492 rfl (0 : Int32) rfl ?_
            refine own_istore X668 hx hby at_493 rfl #[.val (.long x0), .second, .val (.long x1), .second, .val (.long x2), .second, .val (.long x3), .second, .val (.int x4), .val (.int x5), .val (.long (x0 &&& (1152921504606846975 : Int64))), .second, .val (.long (x1 &&& (1152921504606846975 : Int64))), .second, .val (.long (x2 &&& (1152921504606846975 : Int64))), .second, .val (.long (x3 &&& (1152921504606846975 : Int64))), .second, .val (.int z597), .val (.int (x4 &&& (3 : Int32))), .val (.int z599), .val (.int z602), .val (.int z605), .val (.int z608), .val (.ref b611), .val (.ref r0), .val (.ref r1), .val (.long (-Va)), .second, .val (.int z639), .val (.int z642), .val (.long z645), .second, .val (.long z652), .second, .val (.long z655), .second, .val (.long z658), .second, .val (.long z661), .second, .val (.int z668), .val (.int (0 : Int32)), .unset, .unset, .unset, .unset, .unset, .unset, .unset] rfl ?_
            exact J673 T668 (0 : Int32) X668 e668 (Or.inr ⟨rfl, Or.inr (Or.inr (Or.inr thc677))⟩)
          · -- pc 484: f
            have thc677 := congrArg Int64.toInt hc677
            refine own_iconst X668 hx hby at_488 rfl (1 : Int32) rfl ?_
            refine own_goto X668 hx hby at_489 (pc' := 493) (by decide) ?_
            refine own_istore X668 hx hby at_493 rfl #[.val (.long x0), .second, .val (.long x1), .second, .val (.long x2), .second, .val (.long x3), .second, .val (.int x4), .val (.int x5), .val (.long (x0 &&& (1152921504606846975 : Int64))), .second, .val (.long (x1 &&& (1152921504606846975 : Int64))), .second, .val (.long (x2 &&& (1152921504606846975 : Int64))), .second, .val (.long (x3 &&& (1152921504606846975 : Int64))), .second, .val (.int z597), .val (.int (x4 &&& (3 : Int32))), .val (.int z599), .val (.int z602), .val (.int z605), .val (.int z608), .val (.ref b611), .val (.ref r0), .val (.ref r1), .val (.long (-Va)), .second, .val (.int z639), .val (.int z642), .val (.long z645), .second, .val (.long z652), .second, .val (.long z655), .second, .val (.long z658), .second, .val (.long z661), .second, .val (.int z668), .val (.int (1 : Int32)), .unset, .unset, .unset, .unset, .unset, .unset, .unset] rfl ?_
            exact J673 T668 (1 : Int32) X668 e668 (Or.inl rfl)
  show Ends p.tables e below _ (T673.setTop (mkF m 495 #[.val (.long x0), .second, .val (.long x1), .second, .val (.long x2), .second, .val (.long x3), .second, .val (.int x4), .val (.int x5), .val (.long (x0 &&& (1152921504606846975 : Int64))), .second, .val (.long (x1 &&& (1152921504606846975 : Int64))), .second, .val (.long (x2 &&& (1152921504606846975 : Int64))), .second, .val (.long (x3 &&& (1152921504606846975 : Int64))), .second, .val (.int z597), .val (.int (x4 &&& (3 : Int32))), .val (.int z599), .val (.int z602), .val (.int z605), .val (.int z608), .val (.ref b611), .val (.ref r0), .val (.ref r1), .val (.long (-Va)), .second, .val (.int z639), .val (.int z642), .val (.long z645), .second, .val (.long z652), .second, .val (.long z655), .second, .val (.long z658), .second, .val (.long z661), .second, .val (.int z668), .val (.int z673), .unset, .unset, .unset, .unset, .unset, .unset, .unset] []))
  refine own_joinT X673 e673 (fun z678 : Int32 => True) (fun z678 => (mkF m 507 #[.val (.long x0), .second, .val (.long x1), .second, .val (.long x2), .second, .val (.long x3), .second, .val (.int x4), .val (.int x5), .val (.long (x0 &&& (1152921504606846975 : Int64))), .second, .val (.long (x1 &&& (1152921504606846975 : Int64))), .second, .val (.long (x2 &&& (1152921504606846975 : Int64))), .second, .val (.long (x3 &&& (1152921504606846975 : Int64))), .second, .val (.int z597), .val (.int (x4 &&& (3 : Int32))), .val (.int z599), .val (.int z602), .val (.int z605), .val (.int z608), .val (.ref b611), .val (.ref r0), .val (.ref r1), .val (.long (-Va)), .second, .val (.int z639), .val (.int z642), .val (.long z645), .second, .val (.long z652), .second, .val (.long z655), .second, .val (.long z658), .second, .val (.long z661), .second, .val (.int z668), .val (.int z673), .unset, .unset, .unset, .unset, .unset, .unset, .unset] [])) (fun J678 => ?_) (fun T678 z678 X678 e678 q678 => ?_)
  · -- to pc 507
    refine own_iload X673 hx hby at_495 rfl rfl ?_
    refine own_if_ne X673 hx hby at_497 (pcY := 507) (pcN := 500) (by decide) rfl (fun (hc679 : ¬ z668 = (0 : Int32)) => ?_) (fun (hc679 : z668 = (0 : Int32)) => ?_)
    · -- pc 497: t
      have thc679 := own_nti hc679
      exact J678 T673 0 X673 e673 (trivial)
    · -- pc 497: f
      have thc679 := congrArg Int32.toInt hc679
      refine own_iload X673 hx hby at_500 rfl rfl ?_
      refine own_if_ne X673 hx hby at_502 (pcY := 507) (pcN := 505) (by decide) rfl (fun (hc680 : ¬ z673 = (0 : Int32)) => ?_) (fun (hc680 : z673 = (0 : Int32)) => False.elim (by exact own_l5 q616 q620 q624 q628 hD hA du5 du6 hopt q639 q642 q652 q655 q658 q661 q668 q673 (congrArg Int32.toInt hc679) (congrArg Int32.toInt hc680)))
      exact J678 T673 0 X673 e673 (trivial)
  show Ends p.tables e below _ (T678.setTop (mkF m 507 #[.val (.long x0), .second, .val (.long x1), .second, .val (.long x2), .second, .val (.long x3), .second, .val (.int x4), .val (.int x5), .val (.long (x0 &&& (1152921504606846975 : Int64))), .second, .val (.long (x1 &&& (1152921504606846975 : Int64))), .second, .val (.long (x2 &&& (1152921504606846975 : Int64))), .second, .val (.long (x3 &&& (1152921504606846975 : Int64))), .second, .val (.int z597), .val (.int (x4 &&& (3 : Int32))), .val (.int z599), .val (.int z602), .val (.int z605), .val (.int z608), .val (.ref b611), .val (.ref r0), .val (.ref r1), .val (.long (-Va)), .second, .val (.int z639), .val (.int z642), .val (.long z645), .second, .val (.long z652), .second, .val (.long z655), .second, .val (.long z658), .second, .val (.long z661), .second, .val (.int z668), .val (.int z673), .unset, .unset, .unset, .unset, .unset, .unset, .unset] []))
  refine own_iload X678 hx hby at_507 rfl rfl ?_
  refine own_iconst X678 hx hby at_509 rfl (1 : Int32) rfl ?_
  refine own_iand X678 hx hby at_510 rfl ?_
  refine own_istore X678 hx hby at_511 rfl #[.val (.long x0), .second, .val (.long x1), .second, .val (.long x2), .second, .val (.long x3), .second, .val (.int x4), .val (.int x5), .val (.long (x0 &&& (1152921504606846975 : Int64))), .second, .val (.long (x1 &&& (1152921504606846975 : Int64))), .second, .val (.long (x2 &&& (1152921504606846975 : Int64))), .second, .val (.long (x3 &&& (1152921504606846975 : Int64))), .second, .val (.int z597), .val (.int (x4 &&& (3 : Int32))), .val (.int z599), .val (.int z602), .val (.int z605), .val (.int z608), .val (.ref b611), .val (.ref r0), .val (.ref r1), .val (.long (-Va)), .second, .val (.int z639), .val (.int z642), .val (.long z645), .second, .val (.long z652), .second, .val (.long z655), .second, .val (.long z658), .second, .val (.long z661), .second, .val (.int z668), .val (.int z673), .val (.int (x5 &&& (1 : Int32))), .unset, .unset, .unset, .unset, .unset, .unset] rfl ?_
  refine own_iload X678 hx hby at_513 rfl rfl ?_
  refine own_iconst X678 hx hby at_515 rfl (1 : Int32) rfl ?_
  refine own_ishr X678 hx hby at_516 rfl ?_
  refine own_iconst X678 hx hby at_517 rfl (1 : Int32) rfl ?_
  refine own_iand X678 hx hby at_518 rfl ?_
  refine own_istore X678 hx hby at_519 rfl #[.val (.long x0), .second, .val (.long x1), .second, .val (.long x2), .second, .val (.long x3), .second, .val (.int x4), .val (.int x5), .val (.long (x0 &&& (1152921504606846975 : Int64))), .second, .val (.long (x1 &&& (1152921504606846975 : Int64))), .second, .val (.long (x2 &&& (1152921504606846975 : Int64))), .second, .val (.long (x3 &&& (1152921504606846975 : Int64))), .second, .val (.int z597), .val (.int (x4 &&& (3 : Int32))), .val (.int z599), .val (.int z602), .val (.int z605), .val (.int z608), .val (.ref b611), .val (.ref r0), .val (.ref r1), .val (.long (-Va)), .second, .val (.int z639), .val (.int z642), .val (.long z645), .second, .val (.long z652), .second, .val (.long z655), .second, .val (.long z658), .second, .val (.long z661), .second, .val (.int z668), .val (.int z673), .val (.int (x5 &&& (1 : Int32))), .val (.int ((x5 >>> ((1 : Int32) &&& 31)) &&& (1 : Int32))), .unset, .unset, .unset, .unset, .unset] rfl ?_
  rcases own_bit x5 with hr | hr
  · -- row 0
    rw [hr]
    show Ends p.tables e below _ (T678.setTop (mkF m 521 #[.val (.long x0), .second, .val (.long x1), .second, .val (.long x2), .second, .val (.long x3), .second, .val (.int x4), .val (.int x5), .val (.long (x0 &&& (1152921504606846975 : Int64))), .second, .val (.long (x1 &&& (1152921504606846975 : Int64))), .second, .val (.long (x2 &&& (1152921504606846975 : Int64))), .second, .val (.long (x3 &&& (1152921504606846975 : Int64))), .second, .val (.int z597), .val (.int (x4 &&& (3 : Int32))), .val (.int z599), .val (.int z602), .val (.int z605), .val (.int z608), .val (.ref b611), .val (.ref r0), .val (.ref r1), .val (.long (-Va)), .second, .val (.int z639), .val (.int z642), .val (.long z645), .second, .val (.long z652), .second, .val (.long z655), .second, .val (.long z658), .second, .val (.long z661), .second, .val (.int z668), .val (.int z673), .val (.int (0 : Int32)), .val (.int ((x5 >>> ((1 : Int32) &&& 31)) &&& (1 : Int32))), .unset, .unset, .unset, .unset, .unset] []))
    rcases own_bit (x5 >>> ((1 : Int32) &&& 31)) with hq | hq
    · -- column 0
      rw [hq]
      show Ends p.tables e below _ (T678.setTop (mkF m 521 #[.val (.long x0), .second, .val (.long x1), .second, .val (.long x2), .second, .val (.long x3), .second, .val (.int x4), .val (.int x5), .val (.long (x0 &&& (1152921504606846975 : Int64))), .second, .val (.long (x1 &&& (1152921504606846975 : Int64))), .second, .val (.long (x2 &&& (1152921504606846975 : Int64))), .second, .val (.long (x3 &&& (1152921504606846975 : Int64))), .second, .val (.int z597), .val (.int (x4 &&& (3 : Int32))), .val (.int z599), .val (.int z602), .val (.int z605), .val (.int z608), .val (.ref b611), .val (.ref r0), .val (.ref r1), .val (.long (-Va)), .second, .val (.int z639), .val (.int z642), .val (.long z645), .second, .val (.long z652), .second, .val (.long z655), .second, .val (.long z658), .second, .val (.long z661), .second, .val (.int z668), .val (.int z673), .val (.int (0 : Int32)), .val (.int (0 : Int32)), .unset, .unset, .unset, .unset, .unset] []))
      refine own_iload X678 hx hby at_521 rfl rfl ?_
      refine own_if_ne X678 hx hby at_523 (pcY := 561) (pcN := 526) (by decide) rfl (fun (hc681 : ¬ (0 : Int32) = (0 : Int32)) => False.elim (by exact absurd hc681 (by decide))) (fun (hc681 : (0 : Int32) = (0 : Int32)) => ?_)
      refine own_iload X678 hx hby at_526 rfl rfl ?_
      refine own_if_ne X678 hx hby at_528 (pcY := 546) (pcN := 531) (by decide) rfl (fun (hc682 : ¬ (0 : Int32) = (0 : Int32)) => False.elim (by exact absurd hc682 (by decide))) (fun (hc682 : (0 : Int32) = (0 : Int32)) => ?_)
      refine own_iload X678 hx hby at_531 rfl rfl ?_
      refine own_istore X678 hx hby at_533 rfl #[.val (.long x0), .second, .val (.long x1), .second, .val (.long x2), .second, .val (.long x3), .second, .val (.int x4), .val (.int x5), .val (.long (x0 &&& (1152921504606846975 : Int64))), .second, .val (.long (x1 &&& (1152921504606846975 : Int64))), .second, .val (.long (x2 &&& (1152921504606846975 : Int64))), .second, .val (.long (x3 &&& (1152921504606846975 : Int64))), .second, .val (.int z597), .val (.int (x4 &&& (3 : Int32))), .val (.int z599), .val (.int z602), .val (.int z605), .val (.int z608), .val (.ref b611), .val (.ref r0), .val (.ref r1), .val (.long (-Va)), .second, .val (.int z639), .val (.int z642), .val (.long z645), .second, .val (.long z652), .second, .val (.long z655), .second, .val (.long z658), .second, .val (.long z661), .second, .val (.int z668), .val (.int z673), .val (.int (0 : Int32)), .val (.int (0 : Int32)), .val (.int z599), .unset, .unset, .unset, .unset] rfl ?_
      refine own_lload X678 hx hby at_535 rfl rfl ?_
      refine own_lstore X678 hx hby at_537 rfl #[.val (.long x0), .second, .val (.long x1), .second, .val (.long x2), .second, .val (.long x3), .second, .val (.int x4), .val (.int x5), .val (.long (x0 &&& (1152921504606846975 : Int64))), .second, .val (.long (x1 &&& (1152921504606846975 : Int64))), .second, .val (.long (x2 &&& (1152921504606846975 : Int64))), .second, .val (.long (x3 &&& (1152921504606846975 : Int64))), .second, .val (.int z597), .val (.int (x4 &&& (3 : Int32))), .val (.int z599), .val (.int z602), .val (.int z605), .val (.int z608), .val (.ref b611), .val (.ref r0), .val (.ref r1), .val (.long (-Va)), .second, .val (.int z639), .val (.int z642), .val (.long z645), .second, .val (.long z652), .second, .val (.long z655), .second, .val (.long z658), .second, .val (.long z661), .second, .val (.int z668), .val (.int z673), .val (.int (0 : Int32)), .val (.int (0 : Int32)), .val (.int z599), .val (.long (x0 &&& (1152921504606846975 : Int64))), .second, .unset, .unset] rfl ?_
      refine own_lload X678 hx hby at_539 rfl rfl ?_
      refine own_lstore X678 hx hby at_541 rfl #[.val (.long x0), .second, .val (.long x1), .second, .val (.long x2), .second, .val (.long x3), .second, .val (.int x4), .val (.int x5), .val (.long (x0 &&& (1152921504606846975 : Int64))), .second, .val (.long (x1 &&& (1152921504606846975 : Int64))), .second, .val (.long (x2 &&& (1152921504606846975 : Int64))), .second, .val (.long (x3 &&& (1152921504606846975 : Int64))), .second, .val (.int z597), .val (.int (x4 &&& (3 : Int32))), .val (.int z599), .val (.int z602), .val (.int z605), .val (.int z608), .val (.ref b611), .val (.ref r0), .val (.ref r1), .val (.long (-Va)), .second, .val (.int z639), .val (.int z642), .val (.long z645), .second, .val (.long z652), .second, .val (.long z655), .second, .val (.long z658), .second, .val (.long z661), .second, .val (.int z668), .val (.int z673), .val (.int (0 : Int32)), .val (.int (0 : Int32)), .val (.int z599), .val (.long (x0 &&& (1152921504606846975 : Int64))), .second, .val (.long z652), .second] rfl ?_
      refine own_goto X678 hx hby at_543 (pc' := 593) (by decide) ?_
      refine own_iload X678 hx hby at_593 rfl rfl ?_
      refine own_if_ne X678 hx hby at_595 (pcY := 600) (pcN := 598) (by decide) rfl (fun (hc683 : ¬ z599 = (0 : Int32)) => ?_) (fun (hc683 : z599 = (0 : Int32)) => ?_)
      · -- pc 595: t
        have thc683 := own_nti hc683
        refine own_lload X678 hx hby at_600 rfl rfl ?_
        refine own_lload X678 hx hby at_602 rfl rfl ?_
        refine own_aload X678 hx hby at_604 rfl rfl rfl ?_
        refine own_iload X678 hx hby at_606 rfl rfl ?_
        refine own_virtual X678 hx hby hZ (Cn := "com/example/weftwork/weftwork/algorithm/Assignment") (a := b611) (argsL := [(.int (0 : Int32))]) (rest := [(.long (x0 &&& (1152921504606846975 : Int64))), (.long z652)]) hown (hw _ tw_66) (hw _ tw_67) (hw _ tw_69) (hw _ tw_68) (hw _ tw_3) (hw _ tw_70) (by decide) (rmroc0 l Z a0 hw b611 T632.heap Bq Uq Vq) (B_E Bq) e678 (by rw [hml]; rfl) pd_9 rfl (by decide) (W := 4) (Nat.le_refl _) (by decide) (by decide) (by decide) at_608 rfl rfl (fun v684 T684 L684 X684 hQ684 => ?_)
        obtain ⟨rfl, rfl, e684⟩ := hQ684
        show Ends p.tables e below _ (T684.setTop (mkF m 611 #[.val (.long x0), .second, .val (.long x1), .second, .val (.long x2), .second, .val (.long x3), .second, .val (.int x4), .val (.int x5), .val (.long (x0 &&& (1152921504606846975 : Int64))), .second, .val (.long (x1 &&& (1152921504606846975 : Int64))), .second, .val (.long (x2 &&& (1152921504606846975 : Int64))), .second, .val (.long (x3 &&& (1152921504606846975 : Int64))), .second, .val (.int z597), .val (.int (x4 &&& (3 : Int32))), .val (.int z599), .val (.int z602), .val (.int z605), .val (.int z608), .val (.ref b611), .val (.ref r0), .val (.ref r1), .val (.long (-Va)), .second, .val (.int z639), .val (.int z642), .val (.long z645), .second, .val (.long z652), .second, .val (.long z655), .second, .val (.long z658), .second, .val (.long z661), .second, .val (.int z668), .val (.int z673), .val (.int (0 : Int32)), .val (.int (0 : Int32)), .val (.int z599), .val (.long (x0 &&& (1152921504606846975 : Int64))), .second, .val (.long z652), .second] [(.long Ua), (.long (x0 &&& (1152921504606846975 : Int64))), (.long z652)]))
        refine own_lsub X684 hx hby at_611 rfl ?_
        refine own_aload X684 hx hby at_612 rfl rfl rfl ?_
        refine own_iload X684 hx hby at_614 rfl rfl ?_
        refine own_virtual X684 hx hby hZ (Cn := "com/example/weftwork/weftwork/algorithm/Assignment") (a := b611) (argsL := [(.int (0 : Int32))]) (rest := [(.long ((x0 &&& (1152921504606846975 : Int64)) - Ua)), (.long z652)]) hown (hw _ tw_71) (hw _ tw_72) (hw _ tw_74) (hw _ tw_73) (hw _ tw_3) (hw _ tw_75) (by decide) (rmcoc0 l Z a0 hw b611 T632.heap Bq Uq Vq) (B_E Bq) e684 (by rw [hml]; rfl) pd_9 rfl (by decide) (W := 4) (Nat.le_refl _) (by decide) (by decide) (by decide) at_616 rfl rfl (fun v685 T685 L685 X685 hQ685 => ?_)
        obtain ⟨rfl, rfl, e685⟩ := hQ685
        show Ends p.tables e below _ (T685.setTop (mkF m 619 #[.val (.long x0), .second, .val (.long x1), .second, .val (.long x2), .second, .val (.long x3), .second, .val (.int x4), .val (.int x5), .val (.long (x0 &&& (1152921504606846975 : Int64))), .second, .val (.long (x1 &&& (1152921504606846975 : Int64))), .second, .val (.long (x2 &&& (1152921504606846975 : Int64))), .second, .val (.long (x3 &&& (1152921504606846975 : Int64))), .second, .val (.int z597), .val (.int (x4 &&& (3 : Int32))), .val (.int z599), .val (.int z602), .val (.int z605), .val (.int z608), .val (.ref b611), .val (.ref r0), .val (.ref r1), .val (.long (-Va)), .second, .val (.int z639), .val (.int z642), .val (.long z645), .second, .val (.long z652), .second, .val (.long z655), .second, .val (.long z658), .second, .val (.long z661), .second, .val (.int z668), .val (.int z673), .val (.int (0 : Int32)), .val (.int (0 : Int32)), .val (.int z599), .val (.long (x0 &&& (1152921504606846975 : Int64))), .second, .val (.long z652), .second] [(.long Vb), (.long ((x0 &&& (1152921504606846975 : Int64)) - Ua)), (.long z652)]))
        refine own_lsub X685 hx hby at_619 rfl ?_
        refine own_lcmp_ne X685 hx hby at_620 at_621 (pcY := 628) (pcN := 624) (by decide) rfl (fun (hc686 : ¬ z652 = (((x0 &&& (1152921504606846975 : Int64)) - Ua) - Vb)) => False.elim (by exact hc686 (own_l6 q652 thc683 hc0 dUa dVb))) (fun (hc686 : z652 = (((x0 &&& (1152921504606846975 : Int64)) - Ua) - Vb)) => ?_)
        refine own_iconst X685 hx hby at_624 rfl (1 : Int32) rfl ?_
        refine own_goto X685 hx hby at_625 (pc' := 629) (by decide) ?_
        refine own_ret X685 hx hby hret hlk at_629 (.int (1 : Int32)) rfl (Or.inl ⟨rfl, by simp, _, rfl⟩) (by decide) (by decide) ?_
        exact ⟨rfl, (Fr.app (Fr.app (Fr.app N630 N632q) (Fr.nil _)) (Fr.nil _))⟩
      · -- pc 595: f
        have thc683 := congrArg Int32.toInt hc683
        refine own_iconst X678 hx hby at_598 rfl (1 : Int32) rfl ?_
        refine own_ret X678 hx hby hret hlk at_599 (.int (1 : Int32)) rfl (Or.inl ⟨rfl, by simp, _, rfl⟩) (by decide) (by decide) ?_
        exact ⟨rfl, (Fr.app N630 N632q)⟩
    · -- column 1
      rw [hq]
      show Ends p.tables e below _ (T678.setTop (mkF m 521 #[.val (.long x0), .second, .val (.long x1), .second, .val (.long x2), .second, .val (.long x3), .second, .val (.int x4), .val (.int x5), .val (.long (x0 &&& (1152921504606846975 : Int64))), .second, .val (.long (x1 &&& (1152921504606846975 : Int64))), .second, .val (.long (x2 &&& (1152921504606846975 : Int64))), .second, .val (.long (x3 &&& (1152921504606846975 : Int64))), .second, .val (.int z597), .val (.int (x4 &&& (3 : Int32))), .val (.int z599), .val (.int z602), .val (.int z605), .val (.int z608), .val (.ref b611), .val (.ref r0), .val (.ref r1), .val (.long (-Va)), .second, .val (.int z639), .val (.int z642), .val (.long z645), .second, .val (.long z652), .second, .val (.long z655), .second, .val (.long z658), .second, .val (.long z661), .second, .val (.int z668), .val (.int z673), .val (.int (0 : Int32)), .val (.int (1 : Int32)), .unset, .unset, .unset, .unset, .unset] []))
      refine own_iload X678 hx hby at_521 rfl rfl ?_
      refine own_if_ne X678 hx hby at_523 (pcY := 561) (pcN := 526) (by decide) rfl (fun (hc687 : ¬ (0 : Int32) = (0 : Int32)) => False.elim (by exact absurd hc687 (by decide))) (fun (hc687 : (0 : Int32) = (0 : Int32)) => ?_)
      refine own_iload X678 hx hby at_526 rfl rfl ?_
      refine own_if_ne X678 hx hby at_528 (pcY := 546) (pcN := 531) (by decide) rfl (fun (hc688 : ¬ (1 : Int32) = (0 : Int32)) => ?_) (fun (hc688 : (1 : Int32) = (0 : Int32)) => False.elim (by exact absurd hc688 (by decide)))
      refine own_iload X678 hx hby at_546 rfl rfl ?_
      refine own_istore X678 hx hby at_548 rfl #[.val (.long x0), .second, .val (.long x1), .second, .val (.long x2), .second, .val (.long x3), .second, .val (.int x4), .val (.int x5), .val (.long (x0 &&& (1152921504606846975 : Int64))), .second, .val (.long (x1 &&& (1152921504606846975 : Int64))), .second, .val (.long (x2 &&& (1152921504606846975 : Int64))), .second, .val (.long (x3 &&& (1152921504606846975 : Int64))), .second, .val (.int z597), .val (.int (x4 &&& (3 : Int32))), .val (.int z599), .val (.int z602), .val (.int z605), .val (.int z608), .val (.ref b611), .val (.ref r0), .val (.ref r1), .val (.long (-Va)), .second, .val (.int z639), .val (.int z642), .val (.long z645), .second, .val (.long z652), .second, .val (.long z655), .second, .val (.long z658), .second, .val (.long z661), .second, .val (.int z668), .val (.int z673), .val (.int (0 : Int32)), .val (.int (1 : Int32)), .val (.int z602), .unset, .unset, .unset, .unset] rfl ?_
      refine own_lload X678 hx hby at_550 rfl rfl ?_
      refine own_lstore X678 hx hby at_552 rfl #[.val (.long x0), .second, .val (.long x1), .second, .val (.long x2), .second, .val (.long x3), .second, .val (.int x4), .val (.int x5), .val (.long (x0 &&& (1152921504606846975 : Int64))), .second, .val (.long (x1 &&& (1152921504606846975 : Int64))), .second, .val (.long (x2 &&& (1152921504606846975 : Int64))), .second, .val (.long (x3 &&& (1152921504606846975 : Int64))), .second, .val (.int z597), .val (.int (x4 &&& (3 : Int32))), .val (.int z599), .val (.int z602), .val (.int z605), .val (.int z608), .val (.ref b611), .val (.ref r0), .val (.ref r1), .val (.long (-Va)), .second, .val (.int z639), .val (.int z642), .val (.long z645), .second, .val (.long z652), .second, .val (.long z655), .second, .val (.long z658), .second, .val (.long z661), .second, .val (.int z668), .val (.int z673), .val (.int (0 : Int32)), .val (.int (1 : Int32)), .val (.int z602), .val (.long (x1 &&& (1152921504606846975 : Int64))), .second, .unset, .unset] rfl ?_
      refine own_lload X678 hx hby at_554 rfl rfl ?_
      refine own_lstore X678 hx hby at_556 rfl #[.val (.long x0), .second, .val (.long x1), .second, .val (.long x2), .second, .val (.long x3), .second, .val (.int x4), .val (.int x5), .val (.long (x0 &&& (1152921504606846975 : Int64))), .second, .val (.long (x1 &&& (1152921504606846975 : Int64))), .second, .val (.long (x2 &&& (1152921504606846975 : Int64))), .second, .val (.long (x3 &&& (1152921504606846975 : Int64))), .second, .val (.int z597), .val (.int (x4 &&& (3 : Int32))), .val (.int z599), .val (.int z602), .val (.int z605), .val (.int z608), .val (.ref b611), .val (.ref r0), .val (.ref r1), .val (.long (-Va)), .second, .val (.int z639), .val (.int z642), .val (.long z645), .second, .val (.long z652), .second, .val (.long z655), .second, .val (.long z658), .second, .val (.long z661), .second, .val (.int z668), .val (.int z673), .val (.int (0 : Int32)), .val (.int (1 : Int32)), .val (.int z602), .val (.long (x1 &&& (1152921504606846975 : Int64))), .second, .val (.long z655), .second] rfl ?_
      refine own_goto X678 hx hby at_558 (pc' := 593) (by decide) ?_
      refine own_iload X678 hx hby at_593 rfl rfl ?_
      refine own_if_ne X678 hx hby at_595 (pcY := 600) (pcN := 598) (by decide) rfl (fun (hc689 : ¬ z602 = (0 : Int32)) => ?_) (fun (hc689 : z602 = (0 : Int32)) => ?_)
      · -- pc 595: t
        have thc689 := own_nti hc689
        refine own_lload X678 hx hby at_600 rfl rfl ?_
        refine own_lload X678 hx hby at_602 rfl rfl ?_
        refine own_aload X678 hx hby at_604 rfl rfl rfl ?_
        refine own_iload X678 hx hby at_606 rfl rfl ?_
        refine own_virtual X678 hx hby hZ (Cn := "com/example/weftwork/weftwork/algorithm/Assignment") (a := b611) (argsL := [(.int (0 : Int32))]) (rest := [(.long (x1 &&& (1152921504606846975 : Int64))), (.long z655)]) hown (hw _ tw_66) (hw _ tw_67) (hw _ tw_69) (hw _ tw_68) (hw _ tw_3) (hw _ tw_70) (by decide) (rmroc0 l Z a0 hw b611 T632.heap Bq Uq Vq) (B_E Bq) e678 (by rw [hml]; rfl) pd_9 rfl (by decide) (W := 4) (Nat.le_refl _) (by decide) (by decide) (by decide) at_608 rfl rfl (fun v690 T690 L690 X690 hQ690 => ?_)
        obtain ⟨rfl, rfl, e690⟩ := hQ690
        show Ends p.tables e below _ (T690.setTop (mkF m 611 #[.val (.long x0), .second, .val (.long x1), .second, .val (.long x2), .second, .val (.long x3), .second, .val (.int x4), .val (.int x5), .val (.long (x0 &&& (1152921504606846975 : Int64))), .second, .val (.long (x1 &&& (1152921504606846975 : Int64))), .second, .val (.long (x2 &&& (1152921504606846975 : Int64))), .second, .val (.long (x3 &&& (1152921504606846975 : Int64))), .second, .val (.int z597), .val (.int (x4 &&& (3 : Int32))), .val (.int z599), .val (.int z602), .val (.int z605), .val (.int z608), .val (.ref b611), .val (.ref r0), .val (.ref r1), .val (.long (-Va)), .second, .val (.int z639), .val (.int z642), .val (.long z645), .second, .val (.long z652), .second, .val (.long z655), .second, .val (.long z658), .second, .val (.long z661), .second, .val (.int z668), .val (.int z673), .val (.int (0 : Int32)), .val (.int (1 : Int32)), .val (.int z602), .val (.long (x1 &&& (1152921504606846975 : Int64))), .second, .val (.long z655), .second] [(.long Ua), (.long (x1 &&& (1152921504606846975 : Int64))), (.long z655)]))
        refine own_lsub X690 hx hby at_611 rfl ?_
        refine own_aload X690 hx hby at_612 rfl rfl rfl ?_
        refine own_iload X690 hx hby at_614 rfl rfl ?_
        refine own_virtual X690 hx hby hZ (Cn := "com/example/weftwork/weftwork/algorithm/Assignment") (a := b611) (argsL := [(.int (1 : Int32))]) (rest := [(.long ((x1 &&& (1152921504606846975 : Int64)) - Ua)), (.long z655)]) hown (hw _ tw_71) (hw _ tw_72) (hw _ tw_74) (hw _ tw_73) (hw _ tw_3) (hw _ tw_75) (by decide) (rmcoc1 l Z a0 hw b611 T632.heap Bq Uq Vq) (B_E Bq) e690 (by rw [hml]; rfl) pd_9 rfl (by decide) (W := 4) (Nat.le_refl _) (by decide) (by decide) (by decide) at_616 rfl rfl (fun v691 T691 L691 X691 hQ691 => ?_)
        obtain ⟨rfl, rfl, e691⟩ := hQ691
        show Ends p.tables e below _ (T691.setTop (mkF m 619 #[.val (.long x0), .second, .val (.long x1), .second, .val (.long x2), .second, .val (.long x3), .second, .val (.int x4), .val (.int x5), .val (.long (x0 &&& (1152921504606846975 : Int64))), .second, .val (.long (x1 &&& (1152921504606846975 : Int64))), .second, .val (.long (x2 &&& (1152921504606846975 : Int64))), .second, .val (.long (x3 &&& (1152921504606846975 : Int64))), .second, .val (.int z597), .val (.int (x4 &&& (3 : Int32))), .val (.int z599), .val (.int z602), .val (.int z605), .val (.int z608), .val (.ref b611), .val (.ref r0), .val (.ref r1), .val (.long (-Va)), .second, .val (.int z639), .val (.int z642), .val (.long z645), .second, .val (.long z652), .second, .val (.long z655), .second, .val (.long z658), .second, .val (.long z661), .second, .val (.int z668), .val (.int z673), .val (.int (0 : Int32)), .val (.int (1 : Int32)), .val (.int z602), .val (.long (x1 &&& (1152921504606846975 : Int64))), .second, .val (.long z655), .second] [(.long Vc), (.long ((x1 &&& (1152921504606846975 : Int64)) - Ua)), (.long z655)]))
        refine own_lsub X691 hx hby at_619 rfl ?_
        refine own_lcmp_ne X691 hx hby at_620 at_621 (pcY := 628) (pcN := 624) (by decide) rfl (fun (hc692 : ¬ z655 = (((x1 &&& (1152921504606846975 : Int64)) - Ua) - Vc)) => False.elim (by exact hc692 (own_l6 q655 thc689 hc1 dUa dVc))) (fun (hc692 : z655 = (((x1 &&& (1152921504606846975 : Int64)) - Ua) - Vc)) => ?_)
        refine own_iconst X691 hx hby at_624 rfl (1 : Int32) rfl ?_
        refine own_goto X691 hx hby at_625 (pc' := 629) (by decide) ?_
        refine own_ret X691 hx hby hret hlk at_629 (.int (1 : Int32)) rfl (Or.inl ⟨rfl, by simp, _, rfl⟩) (by decide) (by decide) ?_
        exact ⟨rfl, (Fr.app (Fr.app (Fr.app N630 N632q) (Fr.nil _)) (Fr.nil _))⟩
      · -- pc 595: f
        have thc689 := congrArg Int32.toInt hc689
        refine own_iconst X678 hx hby at_598 rfl (1 : Int32) rfl ?_
        refine own_ret X678 hx hby hret hlk at_599 (.int (1 : Int32)) rfl (Or.inl ⟨rfl, by simp, _, rfl⟩) (by decide) (by decide) ?_
        exact ⟨rfl, (Fr.app N630 N632q)⟩
  · -- row 1
    rw [hr]
    show Ends p.tables e below _ (T678.setTop (mkF m 521 #[.val (.long x0), .second, .val (.long x1), .second, .val (.long x2), .second, .val (.long x3), .second, .val (.int x4), .val (.int x5), .val (.long (x0 &&& (1152921504606846975 : Int64))), .second, .val (.long (x1 &&& (1152921504606846975 : Int64))), .second, .val (.long (x2 &&& (1152921504606846975 : Int64))), .second, .val (.long (x3 &&& (1152921504606846975 : Int64))), .second, .val (.int z597), .val (.int (x4 &&& (3 : Int32))), .val (.int z599), .val (.int z602), .val (.int z605), .val (.int z608), .val (.ref b611), .val (.ref r0), .val (.ref r1), .val (.long (-Va)), .second, .val (.int z639), .val (.int z642), .val (.long z645), .second, .val (.long z652), .second, .val (.long z655), .second, .val (.long z658), .second, .val (.long z661), .second, .val (.int z668), .val (.int z673), .val (.int (1 : Int32)), .val (.int ((x5 >>> ((1 : Int32) &&& 31)) &&& (1 : Int32))), .unset, .unset, .unset, .unset, .unset] []))
    rcases own_bit (x5 >>> ((1 : Int32) &&& 31)) with hq | hq
    · -- column 0
      rw [hq]
      show Ends p.tables e below _ (T678.setTop (mkF m 521 #[.val (.long x0), .second, .val (.long x1), .second, .val (.long x2), .second, .val (.long x3), .second, .val (.int x4), .val (.int x5), .val (.long (x0 &&& (1152921504606846975 : Int64))), .second, .val (.long (x1 &&& (1152921504606846975 : Int64))), .second, .val (.long (x2 &&& (1152921504606846975 : Int64))), .second, .val (.long (x3 &&& (1152921504606846975 : Int64))), .second, .val (.int z597), .val (.int (x4 &&& (3 : Int32))), .val (.int z599), .val (.int z602), .val (.int z605), .val (.int z608), .val (.ref b611), .val (.ref r0), .val (.ref r1), .val (.long (-Va)), .second, .val (.int z639), .val (.int z642), .val (.long z645), .second, .val (.long z652), .second, .val (.long z655), .second, .val (.long z658), .second, .val (.long z661), .second, .val (.int z668), .val (.int z673), .val (.int (1 : Int32)), .val (.int (0 : Int32)), .unset, .unset, .unset, .unset, .unset] []))
      refine own_iload X678 hx hby at_521 rfl rfl ?_
      refine own_if_ne X678 hx hby at_523 (pcY := 561) (pcN := 526) (by decide) rfl (fun (hc693 : ¬ (1 : Int32) = (0 : Int32)) => ?_) (fun (hc693 : (1 : Int32) = (0 : Int32)) => False.elim (by exact absurd hc693 (by decide)))
      refine own_iload X678 hx hby at_561 rfl rfl ?_
      refine own_if_ne X678 hx hby at_563 (pcY := 581) (pcN := 566) (by decide) rfl (fun (hc694 : ¬ (0 : Int32) = (0 : Int32)) => False.elim (by exact absurd hc694 (by decide))) (fun (hc694 : (0 : Int32) = (0 : Int32)) => ?_)
      refine own_iload X678 hx hby at_566 rfl rfl ?_
      refine own_istore X678 hx hby at_568 rfl #[.val (.long x0), .second, .val (.long x1), .second, .val (.long x2), .second, .val (.long x3), .second, .val (.int x4), .val (.int x5), .val (.long (x0 &&& (1152921504606846975 : Int64))), .second, .val (.long (x1 &&& (1152921504606846975 : Int64))), .second, .val (.long (x2 &&& (1152921504606846975 : Int64))), .second, .val (.long (x3 &&& (1152921504606846975 : Int64))), .second, .val (.int z597), .val (.int (x4 &&& (3 : Int32))), .val (.int z599), .val (.int z602), .val (.int z605), .val (.int z608), .val (.ref b611), .val (.ref r0), .val (.ref r1), .val (.long (-Va)), .second, .val (.int z639), .val (.int z642), .val (.long z645), .second, .val (.long z652), .second, .val (.long z655), .second, .val (.long z658), .second, .val (.long z661), .second, .val (.int z668), .val (.int z673), .val (.int (1 : Int32)), .val (.int (0 : Int32)), .val (.int z605), .unset, .unset, .unset, .unset] rfl ?_
      refine own_lload X678 hx hby at_570 rfl rfl ?_
      refine own_lstore X678 hx hby at_572 rfl #[.val (.long x0), .second, .val (.long x1), .second, .val (.long x2), .second, .val (.long x3), .second, .val (.int x4), .val (.int x5), .val (.long (x0 &&& (1152921504606846975 : Int64))), .second, .val (.long (x1 &&& (1152921504606846975 : Int64))), .second, .val (.long (x2 &&& (1152921504606846975 : Int64))), .second, .val (.long (x3 &&& (1152921504606846975 : Int64))), .second, .val (.int z597), .val (.int (x4 &&& (3 : Int32))), .val (.int z599), .val (.int z602), .val (.int z605), .val (.int z608), .val (.ref b611), .val (.ref r0), .val (.ref r1), .val (.long (-Va)), .second, .val (.int z639), .val (.int z642), .val (.long z645), .second, .val (.long z652), .second, .val (.long z655), .second, .val (.long z658), .second, .val (.long z661), .second, .val (.int z668), .val (.int z673), .val (.int (1 : Int32)), .val (.int (0 : Int32)), .val (.int z605), .val (.long (x2 &&& (1152921504606846975 : Int64))), .second, .unset, .unset] rfl ?_
      refine own_lload X678 hx hby at_574 rfl rfl ?_
      refine own_lstore X678 hx hby at_576 rfl #[.val (.long x0), .second, .val (.long x1), .second, .val (.long x2), .second, .val (.long x3), .second, .val (.int x4), .val (.int x5), .val (.long (x0 &&& (1152921504606846975 : Int64))), .second, .val (.long (x1 &&& (1152921504606846975 : Int64))), .second, .val (.long (x2 &&& (1152921504606846975 : Int64))), .second, .val (.long (x3 &&& (1152921504606846975 : Int64))), .second, .val (.int z597), .val (.int (x4 &&& (3 : Int32))), .val (.int z599), .val (.int z602), .val (.int z605), .val (.int z608), .val (.ref b611), .val (.ref r0), .val (.ref r1), .val (.long (-Va)), .second, .val (.int z639), .val (.int z642), .val (.long z645), .second, .val (.long z652), .second, .val (.long z655), .second, .val (.long z658), .second, .val (.long z661), .second, .val (.int z668), .val (.int z673), .val (.int (1 : Int32)), .val (.int (0 : Int32)), .val (.int z605), .val (.long (x2 &&& (1152921504606846975 : Int64))), .second, .val (.long z658), .second] rfl ?_
      refine own_goto X678 hx hby at_578 (pc' := 593) (by decide) ?_
      refine own_iload X678 hx hby at_593 rfl rfl ?_
      refine own_if_ne X678 hx hby at_595 (pcY := 600) (pcN := 598) (by decide) rfl (fun (hc695 : ¬ z605 = (0 : Int32)) => ?_) (fun (hc695 : z605 = (0 : Int32)) => ?_)
      · -- pc 595: t
        have thc695 := own_nti hc695
        refine own_lload X678 hx hby at_600 rfl rfl ?_
        refine own_lload X678 hx hby at_602 rfl rfl ?_
        refine own_aload X678 hx hby at_604 rfl rfl rfl ?_
        refine own_iload X678 hx hby at_606 rfl rfl ?_
        refine own_virtual X678 hx hby hZ (Cn := "com/example/weftwork/weftwork/algorithm/Assignment") (a := b611) (argsL := [(.int (1 : Int32))]) (rest := [(.long (x2 &&& (1152921504606846975 : Int64))), (.long z658)]) hown (hw _ tw_66) (hw _ tw_67) (hw _ tw_69) (hw _ tw_68) (hw _ tw_3) (hw _ tw_70) (by decide) (rmroc1 l Z a0 hw b611 T632.heap Bq Uq Vq) (B_E Bq) e678 (by rw [hml]; rfl) pd_9 rfl (by decide) (W := 4) (Nat.le_refl _) (by decide) (by decide) (by decide) at_608 rfl rfl (fun v696 T696 L696 X696 hQ696 => ?_)
        obtain ⟨rfl, rfl, e696⟩ := hQ696
        show Ends p.tables e below _ (T696.setTop (mkF m 611 #[.val (.long x0), .second, .val (.long x1), .second, .val (.long x2), .second, .val (.long x3), .second, .val (.int x4), .val (.int x5), .val (.long (x0 &&& (1152921504606846975 : Int64))), .second, .val (.long (x1 &&& (1152921504606846975 : Int64))), .second, .val (.long (x2 &&& (1152921504606846975 : Int64))), .second, .val (.long (x3 &&& (1152921504606846975 : Int64))), .second, .val (.int z597), .val (.int (x4 &&& (3 : Int32))), .val (.int z599), .val (.int z602), .val (.int z605), .val (.int z608), .val (.ref b611), .val (.ref r0), .val (.ref r1), .val (.long (-Va)), .second, .val (.int z639), .val (.int z642), .val (.long z645), .second, .val (.long z652), .second, .val (.long z655), .second, .val (.long z658), .second, .val (.long z661), .second, .val (.int z668), .val (.int z673), .val (.int (1 : Int32)), .val (.int (0 : Int32)), .val (.int z605), .val (.long (x2 &&& (1152921504606846975 : Int64))), .second, .val (.long z658), .second] [(.long Ub), (.long (x2 &&& (1152921504606846975 : Int64))), (.long z658)]))
        refine own_lsub X696 hx hby at_611 rfl ?_
        refine own_aload X696 hx hby at_612 rfl rfl rfl ?_
        refine own_iload X696 hx hby at_614 rfl rfl ?_
        refine own_virtual X696 hx hby hZ (Cn := "com/example/weftwork/weftwork/algorithm/Assignment") (a := b611) (argsL := [(.int (0 : Int32))]) (rest := [(.long ((x2 &&& (1152921504606846975 : Int64)) - Ub)), (.long z658)]) hown (hw _ tw_71) (hw _ tw_72) (hw _ tw_74) (hw _ tw_73) (hw _ tw_3) (hw _ tw_75) (by decide) (rmcoc0 l Z a0 hw b611 T632.heap Bq Uq Vq) (B_E Bq) e696 (by rw [hml]; rfl) pd_9 rfl (by decide) (W := 4) (Nat.le_refl _) (by decide) (by decide) (by decide) at_616 rfl rfl (fun v697 T697 L697 X697 hQ697 => ?_)
        obtain ⟨rfl, rfl, e697⟩ := hQ697
        show Ends p.tables e below _ (T697.setTop (mkF m 619 #[.val (.long x0), .second, .val (.long x1), .second, .val (.long x2), .second, .val (.long x3), .second, .val (.int x4), .val (.int x5), .val (.long (x0 &&& (1152921504606846975 : Int64))), .second, .val (.long (x1 &&& (1152921504606846975 : Int64))), .second, .val (.long (x2 &&& (1152921504606846975 : Int64))), .second, .val (.long (x3 &&& (1152921504606846975 : Int64))), .second, .val (.int z597), .val (.int (x4 &&& (3 : Int32))), .val (.int z599), .val (.int z602), .val (.int z605), .val (.int z608), .val (.ref b611), .val (.ref r0), .val (.ref r1), .val (.long (-Va)), .second, .val (.int z639), .val (.int z642), .val (.long z645), .second, .val (.long z652), .second, .val (.long z655), .second, .val (.long z658), .second, .val (.long z661), .second, .val (.int z668), .val (.int z673), .val (.int (1 : Int32)), .val (.int (0 : Int32)), .val (.int z605), .val (.long (x2 &&& (1152921504606846975 : Int64))), .second, .val (.long z658), .second] [(.long Vb), (.long ((x2 &&& (1152921504606846975 : Int64)) - Ub)), (.long z658)]))
        refine own_lsub X697 hx hby at_619 rfl ?_
        refine own_lcmp_ne X697 hx hby at_620 at_621 (pcY := 628) (pcN := 624) (by decide) rfl (fun (hc698 : ¬ z658 = (((x2 &&& (1152921504606846975 : Int64)) - Ub) - Vb)) => False.elim (by exact hc698 (own_l6 q658 thc695 hc2 dUb dVb))) (fun (hc698 : z658 = (((x2 &&& (1152921504606846975 : Int64)) - Ub) - Vb)) => ?_)
        refine own_iconst X697 hx hby at_624 rfl (1 : Int32) rfl ?_
        refine own_goto X697 hx hby at_625 (pc' := 629) (by decide) ?_
        refine own_ret X697 hx hby hret hlk at_629 (.int (1 : Int32)) rfl (Or.inl ⟨rfl, by simp, _, rfl⟩) (by decide) (by decide) ?_
        exact ⟨rfl, (Fr.app (Fr.app (Fr.app N630 N632q) (Fr.nil _)) (Fr.nil _))⟩
      · -- pc 595: f
        have thc695 := congrArg Int32.toInt hc695
        refine own_iconst X678 hx hby at_598 rfl (1 : Int32) rfl ?_
        refine own_ret X678 hx hby hret hlk at_599 (.int (1 : Int32)) rfl (Or.inl ⟨rfl, by simp, _, rfl⟩) (by decide) (by decide) ?_
        exact ⟨rfl, (Fr.app N630 N632q)⟩
    · -- column 1
      rw [hq]
      show Ends p.tables e below _ (T678.setTop (mkF m 521 #[.val (.long x0), .second, .val (.long x1), .second, .val (.long x2), .second, .val (.long x3), .second, .val (.int x4), .val (.int x5), .val (.long (x0 &&& (1152921504606846975 : Int64))), .second, .val (.long (x1 &&& (1152921504606846975 : Int64))), .second, .val (.long (x2 &&& (1152921504606846975 : Int64))), .second, .val (.long (x3 &&& (1152921504606846975 : Int64))), .second, .val (.int z597), .val (.int (x4 &&& (3 : Int32))), .val (.int z599), .val (.int z602), .val (.int z605), .val (.int z608), .val (.ref b611), .val (.ref r0), .val (.ref r1), .val (.long (-Va)), .second, .val (.int z639), .val (.int z642), .val (.long z645), .second, .val (.long z652), .second, .val (.long z655), .second, .val (.long z658), .second, .val (.long z661), .second, .val (.int z668), .val (.int z673), .val (.int (1 : Int32)), .val (.int (1 : Int32)), .unset, .unset, .unset, .unset, .unset] []))
      refine own_iload X678 hx hby at_521 rfl rfl ?_
      refine own_if_ne X678 hx hby at_523 (pcY := 561) (pcN := 526) (by decide) rfl (fun (hc699 : ¬ (1 : Int32) = (0 : Int32)) => ?_) (fun (hc699 : (1 : Int32) = (0 : Int32)) => False.elim (by exact absurd hc699 (by decide)))
      refine own_iload X678 hx hby at_561 rfl rfl ?_
      refine own_if_ne X678 hx hby at_563 (pcY := 581) (pcN := 566) (by decide) rfl (fun (hc700 : ¬ (1 : Int32) = (0 : Int32)) => ?_) (fun (hc700 : (1 : Int32) = (0 : Int32)) => False.elim (by exact absurd hc700 (by decide)))
      refine own_iload X678 hx hby at_581 rfl rfl ?_
      refine own_istore X678 hx hby at_583 rfl #[.val (.long x0), .second, .val (.long x1), .second, .val (.long x2), .second, .val (.long x3), .second, .val (.int x4), .val (.int x5), .val (.long (x0 &&& (1152921504606846975 : Int64))), .second, .val (.long (x1 &&& (1152921504606846975 : Int64))), .second, .val (.long (x2 &&& (1152921504606846975 : Int64))), .second, .val (.long (x3 &&& (1152921504606846975 : Int64))), .second, .val (.int z597), .val (.int (x4 &&& (3 : Int32))), .val (.int z599), .val (.int z602), .val (.int z605), .val (.int z608), .val (.ref b611), .val (.ref r0), .val (.ref r1), .val (.long (-Va)), .second, .val (.int z639), .val (.int z642), .val (.long z645), .second, .val (.long z652), .second, .val (.long z655), .second, .val (.long z658), .second, .val (.long z661), .second, .val (.int z668), .val (.int z673), .val (.int (1 : Int32)), .val (.int (1 : Int32)), .val (.int z608), .unset, .unset, .unset, .unset] rfl ?_
      refine own_lload X678 hx hby at_585 rfl rfl ?_
      refine own_lstore X678 hx hby at_587 rfl #[.val (.long x0), .second, .val (.long x1), .second, .val (.long x2), .second, .val (.long x3), .second, .val (.int x4), .val (.int x5), .val (.long (x0 &&& (1152921504606846975 : Int64))), .second, .val (.long (x1 &&& (1152921504606846975 : Int64))), .second, .val (.long (x2 &&& (1152921504606846975 : Int64))), .second, .val (.long (x3 &&& (1152921504606846975 : Int64))), .second, .val (.int z597), .val (.int (x4 &&& (3 : Int32))), .val (.int z599), .val (.int z602), .val (.int z605), .val (.int z608), .val (.ref b611), .val (.ref r0), .val (.ref r1), .val (.long (-Va)), .second, .val (.int z639), .val (.int z642), .val (.long z645), .second, .val (.long z652), .second, .val (.long z655), .second, .val (.long z658), .second, .val (.long z661), .second, .val (.int z668), .val (.int z673), .val (.int (1 : Int32)), .val (.int (1 : Int32)), .val (.int z608), .val (.long (x3 &&& (1152921504606846975 : Int64))), .second, .unset, .unset] rfl ?_
      refine own_lload X678 hx hby at_589 rfl rfl ?_
      refine own_lstore X678 hx hby at_591 rfl #[.val (.long x0), .second, .val (.long x1), .second, .val (.long x2), .second, .val (.long x3), .second, .val (.int x4), .val (.int x5), .val (.long (x0 &&& (1152921504606846975 : Int64))), .second, .val (.long (x1 &&& (1152921504606846975 : Int64))), .second, .val (.long (x2 &&& (1152921504606846975 : Int64))), .second, .val (.long (x3 &&& (1152921504606846975 : Int64))), .second, .val (.int z597), .val (.int (x4 &&& (3 : Int32))), .val (.int z599), .val (.int z602), .val (.int z605), .val (.int z608), .val (.ref b611), .val (.ref r0), .val (.ref r1), .val (.long (-Va)), .second, .val (.int z639), .val (.int z642), .val (.long z645), .second, .val (.long z652), .second, .val (.long z655), .second, .val (.long z658), .second, .val (.long z661), .second, .val (.int z668), .val (.int z673), .val (.int (1 : Int32)), .val (.int (1 : Int32)), .val (.int z608), .val (.long (x3 &&& (1152921504606846975 : Int64))), .second, .val (.long z661), .second] rfl ?_
      refine own_iload X678 hx hby at_593 rfl rfl ?_
      refine own_if_ne X678 hx hby at_595 (pcY := 600) (pcN := 598) (by decide) rfl (fun (hc701 : ¬ z608 = (0 : Int32)) => ?_) (fun (hc701 : z608 = (0 : Int32)) => ?_)
      · -- pc 595: t
        have thc701 := own_nti hc701
        refine own_lload X678 hx hby at_600 rfl rfl ?_
        refine own_lload X678 hx hby at_602 rfl rfl ?_
        refine own_aload X678 hx hby at_604 rfl rfl rfl ?_
        refine own_iload X678 hx hby at_606 rfl rfl ?_
        refine own_virtual X678 hx hby hZ (Cn := "com/example/weftwork/weftwork/algorithm/Assignment") (a := b611) (argsL := [(.int (1 : Int32))]) (rest := [(.long (x3 &&& (1152921504606846975 : Int64))), (.long z661)]) hown (hw _ tw_66) (hw _ tw_67) (hw _ tw_69) (hw _ tw_68) (hw _ tw_3) (hw _ tw_70) (by decide) (rmroc1 l Z a0 hw b611 T632.heap Bq Uq Vq) (B_E Bq) e678 (by rw [hml]; rfl) pd_9 rfl (by decide) (W := 4) (Nat.le_refl _) (by decide) (by decide) (by decide) at_608 rfl rfl (fun v702 T702 L702 X702 hQ702 => ?_)
        obtain ⟨rfl, rfl, e702⟩ := hQ702
        show Ends p.tables e below _ (T702.setTop (mkF m 611 #[.val (.long x0), .second, .val (.long x1), .second, .val (.long x2), .second, .val (.long x3), .second, .val (.int x4), .val (.int x5), .val (.long (x0 &&& (1152921504606846975 : Int64))), .second, .val (.long (x1 &&& (1152921504606846975 : Int64))), .second, .val (.long (x2 &&& (1152921504606846975 : Int64))), .second, .val (.long (x3 &&& (1152921504606846975 : Int64))), .second, .val (.int z597), .val (.int (x4 &&& (3 : Int32))), .val (.int z599), .val (.int z602), .val (.int z605), .val (.int z608), .val (.ref b611), .val (.ref r0), .val (.ref r1), .val (.long (-Va)), .second, .val (.int z639), .val (.int z642), .val (.long z645), .second, .val (.long z652), .second, .val (.long z655), .second, .val (.long z658), .second, .val (.long z661), .second, .val (.int z668), .val (.int z673), .val (.int (1 : Int32)), .val (.int (1 : Int32)), .val (.int z608), .val (.long (x3 &&& (1152921504606846975 : Int64))), .second, .val (.long z661), .second] [(.long Ub), (.long (x3 &&& (1152921504606846975 : Int64))), (.long z661)]))
        refine own_lsub X702 hx hby at_611 rfl ?_
        refine own_aload X702 hx hby at_612 rfl rfl rfl ?_
        refine own_iload X702 hx hby at_614 rfl rfl ?_
        refine own_virtual X702 hx hby hZ (Cn := "com/example/weftwork/weftwork/algorithm/Assignment") (a := b611) (argsL := [(.int (1 : Int32))]) (rest := [(.long ((x3 &&& (1152921504606846975 : Int64)) - Ub)), (.long z661)]) hown (hw _ tw_71) (hw _ tw_72) (hw _ tw_74) (hw _ tw_73) (hw _ tw_3) (hw _ tw_75) (by decide) (rmcoc1 l Z a0 hw b611 T632.heap Bq Uq Vq) (B_E Bq) e702 (by rw [hml]; rfl) pd_9 rfl (by decide) (W := 4) (Nat.le_refl _) (by decide) (by decide) (by decide) at_616 rfl rfl (fun v703 T703 L703 X703 hQ703 => ?_)
        obtain ⟨rfl, rfl, e703⟩ := hQ703
        show Ends p.tables e below _ (T703.setTop (mkF m 619 #[.val (.long x0), .second, .val (.long x1), .second, .val (.long x2), .second, .val (.long x3), .second, .val (.int x4), .val (.int x5), .val (.long (x0 &&& (1152921504606846975 : Int64))), .second, .val (.long (x1 &&& (1152921504606846975 : Int64))), .second, .val (.long (x2 &&& (1152921504606846975 : Int64))), .second, .val (.long (x3 &&& (1152921504606846975 : Int64))), .second, .val (.int z597), .val (.int (x4 &&& (3 : Int32))), .val (.int z599), .val (.int z602), .val (.int z605), .val (.int z608), .val (.ref b611), .val (.ref r0), .val (.ref r1), .val (.long (-Va)), .second, .val (.int z639), .val (.int z642), .val (.long z645), .second, .val (.long z652), .second, .val (.long z655), .second, .val (.long z658), .second, .val (.long z661), .second, .val (.int z668), .val (.int z673), .val (.int (1 : Int32)), .val (.int (1 : Int32)), .val (.int z608), .val (.long (x3 &&& (1152921504606846975 : Int64))), .second, .val (.long z661), .second] [(.long Vc), (.long ((x3 &&& (1152921504606846975 : Int64)) - Ub)), (.long z661)]))
        refine own_lsub X703 hx hby at_619 rfl ?_
        refine own_lcmp_ne X703 hx hby at_620 at_621 (pcY := 628) (pcN := 624) (by decide) rfl (fun (hc704 : ¬ z661 = (((x3 &&& (1152921504606846975 : Int64)) - Ub) - Vc)) => False.elim (by exact hc704 (own_l6 q661 thc701 hc3 dUb dVc))) (fun (hc704 : z661 = (((x3 &&& (1152921504606846975 : Int64)) - Ub) - Vc)) => ?_)
        refine own_iconst X703 hx hby at_624 rfl (1 : Int32) rfl ?_
        refine own_goto X703 hx hby at_625 (pc' := 629) (by decide) ?_
        refine own_ret X703 hx hby hret hlk at_629 (.int (1 : Int32)) rfl (Or.inl ⟨rfl, by simp, _, rfl⟩) (by decide) (by decide) ?_
        exact ⟨rfl, (Fr.app (Fr.app (Fr.app N630 N632q) (Fr.nil _)) (Fr.nil _))⟩
      · -- pc 595: f
        have thc701 := congrArg Int32.toInt hc701
        refine own_iconst X678 hx hby at_598 rfl (1 : Int32) rfl ?_
        refine own_ret X678 hx hby hret hlk at_599 (.int (1 : Int32)) rfl (Or.inl ⟨rfl, by simp, _, rfl⟩) (by decide) (by decide) ?_
        exact ⟨rfl, (Fr.app N630 N632q)⟩
set_option maxRecDepth 65536 in
set_option maxHeartbeats 40000000 in
theorem comes_1 {Post : Tables → Env → Array Value → State → Outcome → State → Prop} (hpost : ∀ tb e args s v u, (limb_1_1.after args s (.returned v) u = true ∧ limb_1_2.after args s (.returned v) u = true ∧ True) → FrameEnd s (.returned v) u (Jvm.fieldLocs frame_1_writes args s ++ Jvm.arrayLocs frame_1_arrays args s ++ Jvm.staticLocs frame_1_statics s) 32 128 → Post tb e args s (.returned v) u) :
    ArmFor flags0 classFile x code maxLocals ret World_1 tables_1 room_1 Calls_1 rest_1 Pre_1 Post := by
  intro l hfl _ _ p e ha hc hk s m args below hf hA hF happ hP
  obtain ⟨hcalls, hrest, hpre⟩ := hP
  obtain ⟨-, -, -, hnamed, -, -, -, hat⟩ := (Spec.applies_iff hf).mp happ
  obtain ⟨hg, hn⟩ := and_e (Cond.before_iff.mp (show (Jvm.Cond.and given_1 narrow_1).before args s = true from hpre))
  obtain ⟨hcount, hg0⟩ := and_e hg
  obtain ⟨hv0, hg1⟩ := and_e hg0
  obtain ⟨hv1, hg2⟩ := and_e hg1
  obtain ⟨hv2, hg3⟩ := and_e hg2
  obtain ⟨hv3, hg4⟩ := and_e hg3
  obtain ⟨hv4, hg5⟩ := and_e hg4
  have hv5 := hg5
  obtain ⟨w0, w1, w2, w3, w4, w5, rfl⟩ : ∃ w0 w1 w2 w3 w4 w5 : Value, args = #[w0, w1, w2, w3, w4, w5] := by
    have hs : args.size = 6 := by simpa [Cond.value, given_1] using hcount
    obtain ⟨L⟩ := args
    match L, hs with
    | [w0, w1, w2, w3, w4, w5], _ => exact ⟨w0, w1, w2, w3, w4, w5, rfl⟩
  have hw := fun d (hd : d ∈ tables_1) => atoms_spec (ws := Jvm.Cond.code x code maxLocals ret :: tables_1) hat d (List.mem_cons_of_mem _ hd)
  have hfit : Fit s := fun {y c} hc i hi => by
    obtain ⟨ha, rfl⟩ := Array.getElem?_eq_some_iff.mp hc
    have q := List.all_eq_true.mp ((Array.all_eq_true_iff_forall_mem.mp hF) _ (Array.getElem_mem ha)) i (List.mem_range.mpr hi)
    simpa [Array.getElem?_eq_getElem hi] using q
  obtain ⟨i0, ei0⟩ := isL_v hv0
  obtain rfl : w0 = (.long i0) := Option.some.inj ei0
  obtain ⟨i1, ei1⟩ := isL_v hv1
  obtain rfl : w1 = (.long i1) := Option.some.inj ei1
  obtain ⟨i2, ei2⟩ := isL_v hv2
  obtain rfl : w2 = (.long i2) := Option.some.inj ei2
  obtain ⟨i3, ei3⟩ := isL_v hv3
  obtain rfl : w3 = (.long i3) := Option.some.inj ei3
  obtain ⟨i4, ei4⟩ := is_v hv4
  obtain rfl : w4 = (.int i4) := Option.some.inj ei4
  obtain ⟨i5, ei5⟩ := is_v hv5
  obtain rfl : w5 = (.int i5) := Option.some.inj ei5
  obtain ⟨n, o, h1, h2, h3, _, L, rfl, ⟨rfl, N⟩, hq⟩ := rm0 l s _ hw i0 i1 i2 i3 i4 i5 s.heap s.heap.size (Old.start s) p e ha hc hk s m _ below hf ((Spec.applies_iff_loose hf).mp happ).1 ⟨rfl, State.Warmed39.refl s, rfl⟩ trivial
  refine ⟨n, _, h1, h2, h3, hpost _ _ _ _ _ _ ⟨Cond.after_iff.mpr rfl, Cond.after_iff.mpr (eq_i res_at (Term.int_eval (1)) rfl), trivial⟩ ⟨hq.1, hq.2.1, (hq.2.2.sift fun y hy => Or.inr (N y hy)).mono (by decide) (by decide)⟩⟩
theorem main_1_1 : Claimed_1_1 := comes_1 fun _ _ _ _ _ _ h hF => ⟨h.1, hF⟩
theorem main_1_2 : Claimed_1_2 := comes_1 fun _ _ _ _ _ _ h hF => ⟨h.2.1, hF⟩
end Jvm.Pilot.@@N@@
namespace Jvm.Pilot.@@N@@
open Jvm Jvm.ClassFile Sem Op Lib Jvm.Free Jvm.Stand Jvm.Pilot.@@N@@.Jvm.D
/-! MADE BY PROGRAM (witnessworld.py) out of the Statement's table words and the real class files: 15 classes; the members and pool entries that the words name. The judged class is class 1, her method 1. -/
namespace start1
open Jvm.ClassFile
def u (s : String) : CpInfo := .utf8 (stringToUtf16 s)
/-- a pool by its gaps: so many unusable entries, then the entry; so many at the end -/
def gap : Nat → List CpInfo → List CpInfo
  | 0, r => r
  | n + 1, r => .unusable :: gap n r
def poolList (es : List (Nat × CpInfo)) (last : Nat) : List CpInfo := es.foldr (fun e r => gap e.1 (e.2 :: r)) (gap last [])
def pool (es : List (Nat × CpInfo)) (last : Nat) : Array CpInfo := ⟨poolList es last⟩
def fileOf (pool : Array CpInfo) (this : Nat) (attrs : Array Attribute := #[]) (ms : Array MethodInfo := #[]) (fl : Nat := 33) (sup : Nat := 0) (ifs : Array Nat := #[]) (fds : Array FieldInfo := #[]) : ClassFile where
  minorVersion := 0
  majorVersion := 65
  constantPool := pool
  accessFlags := fl
  thisClass := this
  superClass := sup
  interfaces := ifs
  fields := fds
  methods := ms
  attributes := attrs
def plain (name : String) (sup : Option ClassId) : Class where
  name := name
  kind := .ordinary
  loader := none
  accessFlags := 33
  super := sup
  interfaces := #[]
  cf := none
  fields := #[]
  methods := #[]
  instanceTypes := #[]
  staticTypes := #[]
  resolved := #[]
  callSites := []
  init := .initialized
  statics := none
  mirror := none

def pool0 : Array CpInfo := pool [(5, u "<init>"), (0, u "()V"), (1, .class_ 10), (1, u "java/lang/Object")] 113

def k0c0 : Code := { maxStack := 0, maxLocals := 1, code := object_method_1_code, exceptionTable := #[], attributes := #[] }
def k0m0 : Method := { name := "<init>", desc := "()V", sig := { parameters := [], returnType := none }, accessFlags := 1, code := some k0c0 }
/-- java/lang/Object -/
def k0 : Class := { plain "java/lang/Object" none with
  accessFlags := 33
  interfaces := #[]
  cf := some (fileOf pool0 8 #[] #[{ accessFlags := 1, nameIndex := 5, descriptorIndex := 6, attributes := #[] }] 33 0 #[] #[])
  fields := #[]
  methods := #[k0m0]
  instanceTypes := #[]
  staticTypes := #[]
  resolved := Array.replicate 124 none
  statics := none }

def pool1 : Array CpInfo := pool [(2, .class_ 4), (1, u "java/lang/Object"), (0, u "<init>"), (0, u "()V"), (0, .long 1152921504606846975), (1, .class_ 10), (0, u "com/example/weftwork/weftwork/algorithm/Assignment"), (0, .methodref 9 12), (0, .nameAndType 5 13), (0, u "(II)V"), (0, .methodref 9 15), (0, .nameAndType 16 17), (0, u "row"), (0, u "(I)[J"), (0, .long 9223372036854775807), (1, .methodref 9 21), (0, .nameAndType 22 23), (0, u "solve"), (0, u "(II)J"), (0, .methodref 25 26), (0, .class_ 27), (0, .nameAndType 28 29), (0, u "java/lang/Math"), (0, u "min"), (0, u "(JJ)J"), (0, .methodref 9 31), (0, .nameAndType 32 23), (0, u "reducedCost"), (0, .methodref 9 34), (0, .nameAndType 35 36), (0, u "rowCharge"), (0, u "(I)J"), (0, .methodref 9 38), (0, .nameAndType 39 36), (0, u "columnCharge"), (0, .class_ 41), (0, u "com/example/weftwork/weftwork/algorithm/AssignmentReducedCostPinLaw"), (2, u "law"), (0, u "(JJJJII)Z")] 5

def k1m0 : Method := { name := "<init>", desc := "()V", sig := { parameters := [], returnType := none }, accessFlags := 1, code := none }
def k1c1 : Code := { maxStack := 6, maxLocals := 50, code := code, exceptionTable := #[], attributes := #[] }
def k1m1 : Method := { name := "law", desc := "(JJJJII)Z", sig := { parameters := [.long, .long, .long, .long, .int, .int], returnType := some .boolean }, accessFlags := 9, code := some k1c1 }
/-- com/example/weftwork/weftwork/algorithm/AssignmentReducedCostPinLaw -/
def k1 : Class := { plain "com/example/weftwork/weftwork/algorithm/AssignmentReducedCostPinLaw" (some 0) with
  accessFlags := 49
  interfaces := #[]
  cf := some (fileOf pool1 40 #[] #[{ accessFlags := 1, nameIndex := 5, descriptorIndex := 6, attributes := #[] }, { accessFlags := 9, nameIndex := 44, descriptorIndex := 45, attributes := #[] }] 49 2 #[] #[])
  fields := #[]
  methods := #[k1m0, k1m1]
  instanceTypes := #[]
  staticTypes := #[]
  resolved := Array.replicate 51 none
  statics := none }

def pool2 : Array CpInfo := pool [(3, .methodref 4 5), (0, .class_ 6), (0, .nameAndType 7 8), (0, u "java/lang/Object"), (0, u "<init>"), (0, u "()V"), (0, .class_ 10), (0, u "[[J"), (0, .fieldref 12 13), (0, .class_ 14), (0, .nameAndType 15 10), (0, u "com/example/weftwork/weftwork/algorithm/Assignment"), (0, u "costs"), (0, .fieldref 12 17), (0, .nameAndType 18 19), (0, u "rowPotential"), (0, u "[J"), (0, .fieldref 12 21), (0, .nameAndType 22 19), (0, u "columnPotential"), (0, .fieldref 12 24), (0, .nameAndType 25 26), (0, u "holder"), (0, u "[I"), (0, .fieldref 12 28), (0, .nameAndType 29 26), (0, u "previous"), (0, .fieldref 12 31), (0, .nameAndType 32 19), (0, u "reach"), (0, .fieldref 12 34), (0, .nameAndType 35 36), (0, u "done"), (0, u "[Z"), (0, .long 9223372036854775807), (1, .methodref 40 41), (0, .class_ 42), (0, .nameAndType 43 44), (0, u "java/util/Arrays"), (0, u "fill"), (0, u "([JIIJ)V"), (0, .methodref 40 46), (0, .nameAndType 43 47), (0, u "([IIII)V"), (0, .methodref 12 49), (0, .nameAndType 50 51), (0, u "augment"), (0, u "(II)Z"), (0, .methodref 40 53), (0, .nameAndType 43 54), (0, u "([ZIIZ)V"), (0, u "NONE"), (0, u "J"), (1, u "(II)V"), (2, u "row"), (0, u "(I)[J"), (0, u "solve"), (0, u "(II)J"), (1, u "reducedCost"), (0, u "rowCharge"), (0, u "(I)J"), (0, u "columnCharge")] 3

def k2c0 : Code := { maxStack := 3, maxLocals := 3, code := prog_3_method_1_code, exceptionTable := #[], attributes := #[] }
def k2m0 : Method := { name := "<init>", desc := "(II)V", sig := { parameters := [.int, .int], returnType := none }, accessFlags := 0, code := some k2c0 }
def k2c1 : Code := { maxStack := 2, maxLocals := 2, code := prog_3_method_2_code, exceptionTable := #[], attributes := #[] }
def k2m1 : Method := { name := "row", desc := "(I)[J", sig := { parameters := [.int], returnType := some (.array .long) }, accessFlags := 0, code := some k2c1 }
def k2c2 : Code := { maxStack := 5, maxLocals := 4, code := prog_3_method_3_code, exceptionTable := #[], attributes := #[] }
def k2m2 : Method := { name := "solve", desc := "(II)J", sig := { parameters := [.int, .int], returnType := some .long }, accessFlags := 0, code := some k2c2 }
def k2c3 : Code := { maxStack := 5, maxLocals := 3, code := prog_3_method_4_code, exceptionTable := #[], attributes := #[] }
def k2m3 : Method := { name := "reducedCost", desc := "(II)J", sig := { parameters := [.int, .int], returnType := some .long }, accessFlags := 0, code := some k2c3 }
def k2c4 : Code := { maxStack := 3, maxLocals := 2, code := prog_3_method_5_code, exceptionTable := #[], attributes := #[] }
def k2m4 : Method := { name := "rowCharge", desc := "(I)J", sig := { parameters := [.int], returnType := some .long }, accessFlags := 0, code := some k2c4 }
def k2c5 : Code := { maxStack := 3, maxLocals := 2, code := prog_3_method_6_code, exceptionTable := #[], attributes := #[] }
def k2m5 : Method := { name := "columnCharge", desc := "(I)J", sig := { parameters := [.int], returnType := some .long }, accessFlags := 0, code := some k2c5 }
def k2c6 : Code := { maxStack := 6, maxLocals := 14, code := prog_3_method_7_code, exceptionTable := #[], attributes := #[] }
def k2m6 : Method := { name := "augment", desc := "(II)Z", sig := { parameters := [.int, .int], returnType := some .boolean }, accessFlags := 2, code := some k2c6 }
/-- com/example/weftwork/weftwork/algorithm/Assignment -/
def k2 : Class := { plain "com/example/weftwork/weftwork/algorithm/Assignment" (some 0) with
  accessFlags := 48
  interfaces := #[]
  cf := some (fileOf pool2 12 #[] #[{ accessFlags := 0, nameIndex := 7, descriptorIndex := 58, attributes := #[] }, { accessFlags := 0, nameIndex := 61, descriptorIndex := 62, attributes := #[] }, { accessFlags := 0, nameIndex := 63, descriptorIndex := 64, attributes := #[] }, { accessFlags := 0, nameIndex := 66, descriptorIndex := 64, attributes := #[] }, { accessFlags := 0, nameIndex := 67, descriptorIndex := 68, attributes := #[] }, { accessFlags := 0, nameIndex := 69, descriptorIndex := 68, attributes := #[] }, { accessFlags := 2, nameIndex := 50, descriptorIndex := 51, attributes := #[] }] 48 4 #[] #[{ accessFlags := 24, nameIndex := 55, descriptorIndex := 56, attributes := #[] }, { accessFlags := 18, nameIndex := 15, descriptorIndex := 10, attributes := #[] }, { accessFlags := 18, nameIndex := 18, descriptorIndex := 19, attributes := #[] }, { accessFlags := 18, nameIndex := 22, descriptorIndex := 19, attributes := #[] }, { accessFlags := 18, nameIndex := 25, descriptorIndex := 26, attributes := #[] }, { accessFlags := 18, nameIndex := 29, descriptorIndex := 26, attributes := #[] }, { accessFlags := 18, nameIndex := 32, descriptorIndex := 19, attributes := #[] }, { accessFlags := 18, nameIndex := 35, descriptorIndex := 36, attributes := #[] }])
  fields := #[{ name := "NONE", type := .long, accessFlags := 24, slot := 0, constantValue := 0 }, { name := "costs", type := (.array (.array .long)), accessFlags := 18, slot := 0, constantValue := 0 }, { name := "rowPotential", type := (.array .long), accessFlags := 18, slot := 1, constantValue := 0 }, { name := "columnPotential", type := (.array .long), accessFlags := 18, slot := 2, constantValue := 0 }, { name := "holder", type := (.array .int), accessFlags := 18, slot := 3, constantValue := 0 }, { name := "previous", type := (.array .int), accessFlags := 18, slot := 4, constantValue := 0 }, { name := "reach", type := (.array .long), accessFlags := 18, slot := 5, constantValue := 0 }, { name := "done", type := (.array .boolean), accessFlags := 18, slot := 6, constantValue := 0 }]
  methods := #[k2m0, k2m1, k2m2, k2m3, k2m4, k2m5, k2m6]
  instanceTypes := #[(.array (.array .long)), (.array .long), (.array .long), (.array .int), (.array .int), (.array .long), (.array .boolean)]
  staticTypes := #[.long]
  resolved := Array.replicate 73 none
  statics := none }

def pool3 : Array CpInfo := pool [(2, .class_ 4), (1, u "java/lang/Object"), (0, u "<init>"), (0, u "()V"), (5, u "([IIII)V"), (0, .methodref 14 15), (0, .class_ 16), (0, .nameAndType 17 18), (0, u "java/util/Arrays"), (0, u "rangeCheck"), (0, u "(III)V"), (55, .class_ 76), (1, u "java/util/Arrays$NaturalOrder"), (36, .class_ 115), (1, u "java/util/Arrays$LegacyMergeSort"), (1, u "Z"), (257, .class_ 376), (0, u "java/util/Arrays$ArrayList"), (68, u "$assertionsDisabled"), (269, u "MIN_ARRAY_SORT_GRAN"), (0, u "I"), (2, u "INSERTIONSORT_THRESHOLD"), (120, u "fill"), (3, u "([JIIJ)V"), (8, u "([ZIIZ)V"), (121, .class_ 976), (0, u "java/util/Arrays$ArrayItr")] 52

def k3m0 : Method := { name := "<init>", desc := "()V", sig := { parameters := [], returnType := none }, accessFlags := 2, code := none }
def k3c1 : Code := { maxStack := 4, maxLocals := 3, code := jdk_65_method_30_code, exceptionTable := #[], attributes := #[] }
def k3m1 : Method := { name := "rangeCheck", desc := "(III)V", sig := { parameters := [.int, .int, .int], returnType := none }, accessFlags := 8, code := some k3c1 }
def k3c2 : Code := { maxStack := 4, maxLocals := 6, code := jdk_65_method_102_code, exceptionTable := #[], attributes := #[] }
def k3m2 : Method := { name := "fill", desc := "([JIIJ)V", sig := { parameters := [(.array .long), .int, .int, .long], returnType := none }, accessFlags := 9, code := some k3c2 }
def k3c3 : Code := { maxStack := 3, maxLocals := 5, code := jdk_65_method_104_code, exceptionTable := #[], attributes := #[] }
def k3m3 : Method := { name := "fill", desc := "([IIII)V", sig := { parameters := [(.array .int), .int, .int, .int], returnType := none }, accessFlags := 9, code := some k3c3 }
def k3c4 : Code := { maxStack := 3, maxLocals := 5, code := jdk_65_method_112_code, exceptionTable := #[], attributes := #[] }
def k3m4 : Method := { name := "fill", desc := "([ZIIZ)V", sig := { parameters := [(.array .boolean), .int, .int, .boolean], returnType := none }, accessFlags := 9, code := some k3c4 }
/-- java/util/Arrays -/
def k3 : Class := { plain "java/util/Arrays" (some 0) with
  accessFlags := 49
  interfaces := #[]
  cf := some (fileOf pool3 14 #[.nestMembers #[975, 375, 113, 74]] #[{ accessFlags := 2, nameIndex := 5, descriptorIndex := 6, attributes := #[] }, { accessFlags := 8, nameIndex := 17, descriptorIndex := 18, attributes := #[] }, { accessFlags := 9, nameIndex := 840, descriptorIndex := 844, attributes := #[] }, { accessFlags := 9, nameIndex := 840, descriptorIndex := 12, attributes := #[] }, { accessFlags := 9, nameIndex := 840, descriptorIndex := 853, attributes := #[] }] 49 2 #[] #[{ accessFlags := 26, nameIndex := 715, descriptorIndex := 716, attributes := #[] }, { accessFlags := 26, nameIndex := 719, descriptorIndex := 716, attributes := #[] }, { accessFlags := 4120, nameIndex := 445, descriptorIndex := 117, attributes := #[] }])
  fields := #[{ name := "MIN_ARRAY_SORT_GRAN", type := .int, accessFlags := 26, slot := 0, constantValue := 0 }, { name := "INSERTIONSORT_THRESHOLD", type := .int, accessFlags := 26, slot := 1, constantValue := 0 }, { name := "$assertionsDisabled", type := .boolean, accessFlags := 4120, slot := 2, constantValue := 0 }]
  methods := #[k3m0, k3m1, k3m2, k3m3, k3m4]
  instanceTypes := #[]
  staticTypes := #[.int, .int, .boolean]
  resolved := Array.replicate 1029 none
  statics := none }

def pool4 : Array CpInfo := pool [(1, .class_ 2), (0, u "java/lang/Math"), (1, .class_ 6), (1, u "java/lang/Object"), (0, u "<init>"), (0, u "()V"), (89, .class_ 100), (1, u "java/lang/Math$RandomNumberGeneratorHolder"), (20, u "(JJ)J"), (50, u "negativeZeroFloatBits"), (0, u "J"), (2, u "negativeZeroDoubleBits"), (24, u "min"), (43, u "$assertionsDisabled"), (0, u "Z"), (91, u "twoToTheDoubleScaleDown"), (0, u "D"), (4, u "twoToTheDoubleScaleUp"), (9, u "E"), (3, u "PI"), (2, u "TAU"), (2, u "DEGREES_TO_RADIANS"), (0, u "RADIANS_TO_DEGREES")] 94

def k4m0 : Method := { name := "<init>", desc := "()V", sig := { parameters := [], returnType := none }, accessFlags := 2, code := none }
def k4c1 : Code := { maxStack := 4, maxLocals := 4, code := jdk_29_method_70_code, exceptionTable := #[], attributes := #[] }
def k4m1 : Method := { name := "min", desc := "(JJ)J", sig := { parameters := [.long, .long], returnType := some .long }, accessFlags := 9, code := some k4c1 }
/-- java/lang/Math -/
def k4 : Class := { plain "java/lang/Math" (some 0) with
  accessFlags := 49
  interfaces := #[]
  cf := some (fileOf pool4 1 #[.nestMembers #[98]] #[{ accessFlags := 2, nameIndex := 7, descriptorIndex := 8, attributes := #[] }, { accessFlags := 9, nameIndex := 201, descriptorIndex := 121, attributes := #[] }] 49 4 #[] #[{ accessFlags := 25, nameIndex := 354, descriptorIndex := 339, attributes := #[] }, { accessFlags := 25, nameIndex := 358, descriptorIndex := 339, attributes := #[] }, { accessFlags := 25, nameIndex := 361, descriptorIndex := 339, attributes := #[] }, { accessFlags := 26, nameIndex := 364, descriptorIndex := 339, attributes := #[] }, { accessFlags := 26, nameIndex := 365, descriptorIndex := 339, attributes := #[] }, { accessFlags := 26, nameIndex := 172, descriptorIndex := 173, attributes := #[] }, { accessFlags := 26, nameIndex := 176, descriptorIndex := 173, attributes := #[] }, { accessFlags := 8, nameIndex := 344, descriptorIndex := 339, attributes := #[] }, { accessFlags := 8, nameIndex := 338, descriptorIndex := 339, attributes := #[] }, { accessFlags := 4120, nameIndex := 245, descriptorIndex := 246, attributes := #[] }])
  fields := #[{ name := "E", type := .double, accessFlags := 25, slot := 0, constantValue := 0 }, { name := "PI", type := .double, accessFlags := 25, slot := 1, constantValue := 0 }, { name := "TAU", type := .double, accessFlags := 25, slot := 2, constantValue := 0 }, { name := "DEGREES_TO_RADIANS", type := .double, accessFlags := 26, slot := 3, constantValue := 0 }, { name := "RADIANS_TO_DEGREES", type := .double, accessFlags := 26, slot := 4, constantValue := 0 }, { name := "negativeZeroFloatBits", type := .long, accessFlags := 26, slot := 5, constantValue := 0 }, { name := "negativeZeroDoubleBits", type := .long, accessFlags := 26, slot := 6, constantValue := 0 }, { name := "twoToTheDoubleScaleUp", type := .double, accessFlags := 8, slot := 7, constantValue := 0 }, { name := "twoToTheDoubleScaleDown", type := .double, accessFlags := 8, slot := 8, constantValue := 0 }, { name := "$assertionsDisabled", type := .boolean, accessFlags := 4120, slot := 9, constantValue := 0 }]
  methods := #[k4m0, k4m1]
  instanceTypes := #[]
  staticTypes := #[.double, .double, .double, .double, .double, .long, .long, .double, .double, .boolean]
  resolved := Array.replicate 460 none
  statics := none }

def pool5 : Array CpInfo := pool [(1, u "java/lang/Cloneable"), (0, .class_ 1), (0, u "java/lang/Object"), (0, .class_ 3)] 3

/-- java/lang/Cloneable -/
def k5 : Class := { plain "java/lang/Cloneable" (some 0) with
  accessFlags := 1537
  interfaces := #[]
  cf := some (fileOf pool5 2 #[] #[] 1537 4 #[] #[])
  fields := #[]
  methods := #[]
  instanceTypes := #[]
  staticTypes := #[]
  resolved := Array.replicate 8 none
  statics := none }

def pool6 : Array CpInfo := pool [(1, u "java/io/Serializable"), (0, .class_ 1), (0, u "java/lang/Object"), (0, .class_ 3)] 3

/-- java/io/Serializable -/
def k6 : Class := { plain "java/io/Serializable" (some 0) with
  accessFlags := 1537
  interfaces := #[]
  cf := some (fileOf pool6 2 #[] #[] 1537 4 #[] #[])
  fields := #[]
  methods := #[]
  instanceTypes := #[]
  staticTypes := #[]
  resolved := Array.replicate 8 none
  statics := none }

/-- the primitive boolean -/
def k7 : Class := { plain "boolean" none with kind := .primitive 'Z', accessFlags := 0x411 }
/-- [Z -/
def k8 : Class := { plain "[Z" (some 0) with kind := .array 7 .boolean, interfaces := #[5, 6], accessFlags := 1041 }

/-- the primitive byte -/
def k9 : Class := { plain "byte" none with kind := .primitive 'B', accessFlags := 0x411 }
/-- [B -/
def k10 : Class := { plain "[B" (some 0) with kind := .array 9 .byte, interfaces := #[5, 6], accessFlags := 1041 }

/-- the primitive int -/
def k11 : Class := { plain "int" none with kind := .primitive 'I', accessFlags := 0x411 }
/-- [I -/
def k12 : Class := { plain "[I" (some 0) with kind := .array 11 .int, interfaces := #[5, 6], accessFlags := 1041 }

/-- the primitive long -/
def k13 : Class := { plain "long" none with kind := .primitive 'J', accessFlags := 0x411 }
/-- [J -/
def k14 : Class := { plain "[J" (some 0) with kind := .array 13 .long, interfaces := #[5, 6], accessFlags := 1041 }

def heap : Heap := #[]
def k15 : Class := { plain "[[J" (some 0) with kind := .array 14 (.array .long), interfaces := #[5, 6], accessFlags := 1041 }
def classes : Array Class := #[k0, k1, k2, k3, k4, k5, k6, k7, k8, k9, k10, k11, k12, k13, k14, k15]
def interned : List (Array UInt16 × Addr) := []
def slotsUsed : Nat := 0
def theMethod : MethodId := ⟨1, 1⟩
def args0 : Array Value := #[.long 5, .long 5, .long 5, .long 5, .int 5, .int 5]
def aboutOver (below : List Frame) : State where
  vm := { classes := classes, interned := interned.toArray }
  heap := heap
  slotsUsed := slotsUsed
  threads := #[{ frames := .invoking theMethod args0 :: below }]
def below0 : List Frame := [.native { method := ⟨0, 0⟩, args := #[] }]
def about1 : State := aboutOver below0
def p0 : Program := .bare "" "" ""
def e0 : Env := launch0.env 0 0 0
theorem w_frames : about1.frames = Frame.invoking theMethod args0 :: below0 := rfl
set_option maxRecDepth 65536 in
theorem w_args : argsFit about1.vm theMethod args0 = true := by decide +kernel
set_option maxRecDepth 65536 in
theorem w_heap : heapFits about1 = true := by decide +kernel
set_option maxRecDepth 65536 in
theorem w_runnable : about1.curStatus? = some .runnable := by decide +kernel
set_option maxRecDepth 65536 in
theorem w_alone : about1.alone = true := by decide +kernel
set_option maxRecDepth 65536 in
theorem w_named : about1.methodNamed? x = some theMethod := by decide +kernel
set_option maxRecDepth 65536 in
theorem w_hears : about1.hears theMethod below0 = true := by decide +kernel
set_option maxRecDepth 65536 in
theorem w_ripe : about1.ripe theMethod args0 below0 = true := by decide +kernel
theorem w_running : about1.status = .running := rfl
set_option maxRecDepth 65536 in
theorem w_room : about1.hasRoom e0.platform room_1 = true :=
  launch0.hasRoom_least _ room_1 (by decide +kernel) (by decide +kernel) (by decide +kernel) (by decide +kernel) (by decide +kernel) (by decide +kernel)
theorem allAtoms_all (ts : List Jvm.Cond) (a : Array Jvm.Value) (st : Jvm.State) : (allAtoms ts).before a st = ts.all (fun c => c.before a st) := by
  induction ts with
  | nil => rfl
  | cons c t ih =>
    show (Jvm.Cond.and c (allAtoms t)).before a st = _
    rw [Jvm.Cond.before_and, ih, List.all_cons]
def words1 : List Jvm.Cond := Jvm.Cond.code x code maxLocals ret :: tables_1
/-- a 'code' word, met by the world's own term for the bytes: nothing is compared byte by byte -/
theorem code_word {y : MethodName} {bytes : ByteArray} {mx : Nat} {rt : Option FieldType} {a : Array Value} {s : State} {m : MethodId} {meth : Method} {c : Code} (h1 : s.methodNamed? y = some m) (h2 : s.vm.method? m = some meth) (h3 : meth.code = some c) (h4 : c.code = bytes)
    (h5 : (c.maxLocals == mx && c.exceptionTable.isEmpty && decide (c.maxStack ≤ mostOperands) && decide (meth.sig.returnType = rt) && !meth.locks && decide (parseMethodDescriptor y.desc = some meth.sig)) = true) : (Jvm.Cond.code y bytes mx rt).before a s = true := by
  simp only [Bool.and_eq_true, beq_iff_eq, Bool.not_eq_true', decide_eq_true_eq] at h5
  obtain ⟨⟨⟨⟨⟨g1, g2⟩, g3⟩, g4⟩, g5⟩, g6⟩ := h5
  simp [Cond.before, Cond.holds, Cond.value, h1, h2, h3, h4, g1, g2, g3, g4, g5, g6]
def isCode : Jvm.Cond → Bool
  | .code _ _ _ _ => true
  | _ => false
theorem all_split {L : List Jvm.Cond} {P : Jvm.Cond → Bool} (h1 : L.all (fun c => isCode c || P c) = true) (h2 : ∀ c ∈ L.filter isCode, P c = true) : L.all P = true := by
  refine List.all_eq_true.mpr fun c hc => ?_
  have h := List.all_eq_true.mp h1 c hc
  rcases Bool.eq_false_or_eq_true (isCode c) with hi | hi
  · exact h2 c (List.mem_filter.mpr ⟨hc, hi⟩)
  · simpa [hi] using h
set_option maxRecDepth 65536 in
theorem w_c0 : (Jvm.Cond.code x code maxLocals ret).before args0 about1 = true := code_word (m := ⟨1, 1⟩) (meth := k1m1) (c := k1c1) (by decide +kernel) rfl rfl rfl (by decide +kernel)
set_option maxRecDepth 65536 in
theorem w_c1 : (Jvm.Cond.code ({ cls := "com/example/weftwork/weftwork/algorithm/Assignment", name := "<init>", desc := "(II)V" } : Jvm.MethodName) prog_3_method_1_code (3 : Nat) (Option.none : Option Jvm.ClassFile.FieldType)).before args0 about1 = true := code_word (m := ⟨2, 0⟩) (meth := k2m0) (c := k2c0) (by decide +kernel) rfl rfl rfl (by decide +kernel)
set_option maxRecDepth 65536 in
theorem w_c2 : (Jvm.Cond.code ({ cls := "java/lang/Object", name := "<init>", desc := "()V" } : Jvm.MethodName) object_method_1_code (1 : Nat) (Option.none : Option Jvm.ClassFile.FieldType)).before args0 about1 = true := code_word (m := ⟨0, 0⟩) (meth := k0m0) (c := k0c0) (by decide +kernel) rfl rfl rfl (by decide +kernel)
set_option maxRecDepth 65536 in
theorem w_c3 : (Jvm.Cond.code ({ cls := "com/example/weftwork/weftwork/algorithm/Assignment", name := "row", desc := "(I)[J" } : Jvm.MethodName) prog_3_method_2_code (2 : Nat) (Option.some (Jvm.ClassFile.FieldType.array Jvm.ClassFile.FieldType.long))).before args0 about1 = true := code_word (m := ⟨2, 1⟩) (meth := k2m1) (c := k2c1) (by decide +kernel) rfl rfl rfl (by decide +kernel)
set_option maxRecDepth 65536 in
theorem w_c4 : (Jvm.Cond.code ({ cls := "com/example/weftwork/weftwork/algorithm/Assignment", name := "solve", desc := "(II)J" } : Jvm.MethodName) prog_3_method_3_code (4 : Nat) (Option.some Jvm.ClassFile.FieldType.long)).before args0 about1 = true := code_word (m := ⟨2, 2⟩) (meth := k2m2) (c := k2c2) (by decide +kernel) rfl rfl rfl (by decide +kernel)
set_option maxRecDepth 65536 in
theorem w_c5 : (Jvm.Cond.code ({ cls := "java/util/Arrays", name := "fill", desc := "([JIIJ)V" } : Jvm.MethodName) jdk_65_method_102_code (6 : Nat) (Option.none : Option Jvm.ClassFile.FieldType)).before args0 about1 = true := code_word (m := ⟨3, 2⟩) (meth := k3m2) (c := k3c2) (by decide +kernel) rfl rfl rfl (by decide +kernel)
set_option maxRecDepth 65536 in
theorem w_c6 : (Jvm.Cond.code ({ cls := "java/util/Arrays", name := "rangeCheck", desc := "(III)V" } : Jvm.MethodName) jdk_65_method_30_code (3 : Nat) (Option.none : Option Jvm.ClassFile.FieldType)).before args0 about1 = true := code_word (m := ⟨3, 1⟩) (meth := k3m1) (c := k3c1) (by decide +kernel) rfl rfl rfl (by decide +kernel)
set_option maxRecDepth 65536 in
theorem w_c7 : (Jvm.Cond.code ({ cls := "java/util/Arrays", name := "fill", desc := "([IIII)V" } : Jvm.MethodName) jdk_65_method_104_code (5 : Nat) (Option.none : Option Jvm.ClassFile.FieldType)).before args0 about1 = true := code_word (m := ⟨3, 3⟩) (meth := k3m3) (c := k3c3) (by decide +kernel) rfl rfl rfl (by decide +kernel)
set_option maxRecDepth 65536 in
theorem w_c8 : (Jvm.Cond.code ({ cls := "com/example/weftwork/weftwork/algorithm/Assignment", name := "augment", desc := "(II)Z" } : Jvm.MethodName) prog_3_method_7_code (14 : Nat) (Option.some Jvm.ClassFile.FieldType.boolean)).before args0 about1 = true := code_word (m := ⟨2, 6⟩) (meth := k2m6) (c := k2c6) (by decide +kernel) rfl rfl rfl (by decide +kernel)
set_option maxRecDepth 65536 in
theorem w_c9 : (Jvm.Cond.code ({ cls := "java/util/Arrays", name := "fill", desc := "([ZIIZ)V" } : Jvm.MethodName) jdk_65_method_112_code (5 : Nat) (Option.none : Option Jvm.ClassFile.FieldType)).before args0 about1 = true := code_word (m := ⟨3, 4⟩) (meth := k3m4) (c := k3c4) (by decide +kernel) rfl rfl rfl (by decide +kernel)
set_option maxRecDepth 65536 in
theorem w_c10 : (Jvm.Cond.code ({ cls := "java/lang/Math", name := "min", desc := "(JJ)J" } : Jvm.MethodName) jdk_29_method_70_code (4 : Nat) (Option.some Jvm.ClassFile.FieldType.long)).before args0 about1 = true := code_word (m := ⟨4, 1⟩) (meth := k4m1) (c := k4c1) (by decide +kernel) rfl rfl rfl (by decide +kernel)
set_option maxRecDepth 65536 in
theorem w_c11 : (Jvm.Cond.code ({ cls := "com/example/weftwork/weftwork/algorithm/Assignment", name := "reducedCost", desc := "(II)J" } : Jvm.MethodName) prog_3_method_4_code (3 : Nat) (Option.some Jvm.ClassFile.FieldType.long)).before args0 about1 = true := code_word (m := ⟨2, 3⟩) (meth := k2m3) (c := k2c3) (by decide +kernel) rfl rfl rfl (by decide +kernel)
set_option maxRecDepth 65536 in
theorem w_c12 : (Jvm.Cond.code ({ cls := "com/example/weftwork/weftwork/algorithm/Assignment", name := "rowCharge", desc := "(I)J" } : Jvm.MethodName) prog_3_method_5_code (2 : Nat) (Option.some Jvm.ClassFile.FieldType.long)).before args0 about1 = true := code_word (m := ⟨2, 4⟩) (meth := k2m4) (c := k2c4) (by decide +kernel) rfl rfl rfl (by decide +kernel)
set_option maxRecDepth 65536 in
theorem w_c13 : (Jvm.Cond.code ({ cls := "com/example/weftwork/weftwork/algorithm/Assignment", name := "columnCharge", desc := "(I)J" } : Jvm.MethodName) prog_3_method_6_code (2 : Nat) (Option.some Jvm.ClassFile.FieldType.long)).before args0 about1 = true := code_word (m := ⟨2, 5⟩) (meth := k2m5) (c := k2c5) (by decide +kernel) rfl rfl rfl (by decide +kernel)
def codes1 : List Jvm.Cond := [Jvm.Cond.code x code maxLocals ret, Jvm.Cond.code ({ cls := "com/example/weftwork/weftwork/algorithm/Assignment", name := "<init>", desc := "(II)V" } : Jvm.MethodName) prog_3_method_1_code (3 : Nat) (Option.none : Option Jvm.ClassFile.FieldType), Jvm.Cond.code ({ cls := "java/lang/Object", name := "<init>", desc := "()V" } : Jvm.MethodName) object_method_1_code (1 : Nat) (Option.none : Option Jvm.ClassFile.FieldType), Jvm.Cond.code ({ cls := "com/example/weftwork/weftwork/algorithm/Assignment", name := "row", desc := "(I)[J" } : Jvm.MethodName) prog_3_method_2_code (2 : Nat) (Option.some (Jvm.ClassFile.FieldType.array Jvm.ClassFile.FieldType.long)), Jvm.Cond.code ({ cls := "com/example/weftwork/weftwork/algorithm/Assignment", name := "solve", desc := "(II)J" } : Jvm.MethodName) prog_3_method_3_code (4 : Nat) (Option.some Jvm.ClassFile.FieldType.long), Jvm.Cond.code ({ cls := "java/util/Arrays", name := "fill", desc := "([JIIJ)V" } : Jvm.MethodName) jdk_65_method_102_code (6 : Nat) (Option.none : Option Jvm.ClassFile.FieldType), Jvm.Cond.code ({ cls := "java/util/Arrays", name := "rangeCheck", desc := "(III)V" } : Jvm.MethodName) jdk_65_method_30_code (3 : Nat) (Option.none : Option Jvm.ClassFile.FieldType), Jvm.Cond.code ({ cls := "java/util/Arrays", name := "fill", desc := "([IIII)V" } : Jvm.MethodName) jdk_65_method_104_code (5 : Nat) (Option.none : Option Jvm.ClassFile.FieldType), Jvm.Cond.code ({ cls := "com/example/weftwork/weftwork/algorithm/Assignment", name := "augment", desc := "(II)Z" } : Jvm.MethodName) prog_3_method_7_code (14 : Nat) (Option.some Jvm.ClassFile.FieldType.boolean), Jvm.Cond.code ({ cls := "java/util/Arrays", name := "fill", desc := "([ZIIZ)V" } : Jvm.MethodName) jdk_65_method_112_code (5 : Nat) (Option.none : Option Jvm.ClassFile.FieldType), Jvm.Cond.code ({ cls := "java/lang/Math", name := "min", desc := "(JJ)J" } : Jvm.MethodName) jdk_29_method_70_code (4 : Nat) (Option.some Jvm.ClassFile.FieldType.long), Jvm.Cond.code ({ cls := "com/example/weftwork/weftwork/algorithm/Assignment", name := "reducedCost", desc := "(II)J" } : Jvm.MethodName) prog_3_method_4_code (3 : Nat) (Option.some Jvm.ClassFile.FieldType.long), Jvm.Cond.code ({ cls := "com/example/weftwork/weftwork/algorithm/Assignment", name := "rowCharge", desc := "(I)J" } : Jvm.MethodName) prog_3_method_5_code (2 : Nat) (Option.some Jvm.ClassFile.FieldType.long), Jvm.Cond.code ({ cls := "com/example/weftwork/weftwork/algorithm/Assignment", name := "columnCharge", desc := "(I)J" } : Jvm.MethodName) prog_3_method_6_code (2 : Nat) (Option.some Jvm.ClassFile.FieldType.long)]
set_option maxRecDepth 65536 in
theorem codes_eq : words1.filter isCode = codes1 := rfl
theorem w_codes : ∀ c ∈ words1.filter isCode, c.before args0 about1 = true := by
  rw [codes_eq]
  intro c hc
  simp only [codes1, List.mem_cons, List.not_mem_nil, or_false] at hc
  rcases hc with rfl | rfl | rfl | rfl | rfl | rfl | rfl | rfl | rfl | rfl | rfl | rfl | rfl | rfl
  · exact w_c0
  · exact w_c1
  · exact w_c2
  · exact w_c3
  · exact w_c4
  · exact w_c5
  · exact w_c6
  · exact w_c7
  · exact w_c8
  · exact w_c9
  · exact w_c10
  · exact w_c11
  · exact w_c12
  · exact w_c13
set_option maxRecDepth 65536 in
theorem w_t1 : (words1.take 24).all (fun c => isCode c || c.before args0 about1) = true := by decide +kernel
set_option maxRecDepth 65536 in
theorem w_t2 : ((words1.drop 24).take 24).all (fun c => isCode c || c.before args0 about1) = true := by decide +kernel
set_option maxRecDepth 65536 in
theorem w_t3 : (((words1.drop 24).drop 24).take 24).all (fun c => isCode c || c.before args0 about1) = true := by decide +kernel
set_option maxRecDepth 65536 in
theorem w_t4 : (((words1.drop 24).drop 24).drop 24).all (fun c => isCode c || c.before args0 about1) = true := by decide +kernel
theorem w_tables : (allAtoms (Jvm.Cond.code x code maxLocals ret :: tables_1)).before args0 about1 = true := by
  rw [allAtoms_all]
  show words1.all (fun c => c.before args0 about1) = true
  refine all_split ?_ w_codes
  rw [← List.take_append_drop 24 words1, List.all_append, w_t1, ← List.take_append_drop 24 (words1.drop 24), List.all_append, w_t2, ← List.take_append_drop 24 ((words1.drop 24).drop 24), List.all_append, w_t3, w_t4]
  rfl
set_option maxRecDepth 65536 in
theorem w_case : (Jvm.Cond.and given_1 narrow_1).before args0 about1 = true := by decide +kernel
theorem w_applies : (headSpec (Jvm.Cond.code x code maxLocals ret :: tables_1) room_1).applies x e0.platform about1 = true :=
  (Spec.applies_iff w_frames).mpr ⟨w_running, w_runnable, w_alone, w_named, w_hears, w_ripe, w_room, w_tables⟩
theorem atStart : AtStart classFile x code maxLocals ret World_1 tables_1 room_1 Calls_1 rest_1 Pre_1 launch0 p0 e0 about1 theMethod args0 below0 :=
  ⟨lists_1, trivial, launch0.admits_env _ _ _, launch0.least_env, fairChoices_fair.cas, fairChoices_fair.clock, w_frames, w_args, w_heap, w_applies, trivial, trivial, w_case⟩
end start1
theorem witness_1 : WitnessClaimed_1 := ⟨start1.p0, start1.e0, start1.about1, start1.theMethod, start1.args0, start1.below0, start1.atStart⟩
end Jvm.Pilot.@@N@@

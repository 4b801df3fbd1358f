import JvmDerived
import JvmDerived.Pilot.@@N@@Statement
import JvmDerived.Pilot.@@N@@Code
set_option linter.unusedVariables false
set_option linter.unusedSimpArgs false
namespace Jvm.Pilot.@@N@@
open Jvm Jvm.ClassFile Sem Op Lib Jvm.Free Jvm.Stand Jvm.LawKit Jvm.RoadKit Bundle Jvm.Pilot.@@N@@.Jvm.D
/-! THE LAYER own_: 'Ends': from this state the body ends as Q says; one lemma an instruction, over frames in the form mkF -/
section Own
variable {p : Program} {l : Launch} {e : Env} {R : Room} {s : State} {m : MethodId} {args : Array Value} {below : List Frame} {meth : Method} {c : Code} {T : State} {locs : List Loc} {cells slots : Nat}
variable {Q : Option Value → Heap → List Loc → Prop} {C S : Nat} {bc : ByteArray} {pc pc' : Nat} {Ls Ls' : Array Slot} {st : List Value} {Fz : Outcome → State → Prop}
def Ends (tb : Tables) (e : Env) (below : List Frame) (Fz : Outcome → State → Prop) (t : State) : Prop :=
  ∃ s₂ o, Steps tb e below t s₂ ∧ s₂.status = .running ∧ Ended s₂ below o ∧ Fz o s₂
def OwnFin (s : State) (Q : Option Value → Heap → List Loc → Prop) (C S : Nat) (o : Outcome) (s₂ : State) : Prop := ∃ v L, o = .returned v ∧ Q v s₂.heap L ∧ FrameEnd s o s₂ L C S
theorem Ends.of {tb : Tables} {t t' : State} (st : ∀ target, Steps tb e below t' target → Steps tb e below t target) (k : Ends tb e below Fz t') : Ends tb e below Fz t := by
  obtain ⟨s₂, o, h1, h2⟩ := k
  exact ⟨s₂, o, st _ h1, h2⟩
theorem Ends.tr {tb : Tables} {t t' : State} (st : Steps tb e below t t') (k : Ends tb e below Fz t') : Ends tb e below Fz t := Ends.of (fun _ q => st.trans q) k
theorem own_iloadN (X : Stand p l e R s m args below meth c T locs cells slots) (hx : p.tables.exec = Jvm.exec) (hby : c.code = bc) {k : Fin 4} {v : Int32} (hd : decode bc pc = .ok (.iload_n k, 1)) (hp : pc + 1 = pc') (hl : Ls[k.val]? = some (.val (.int v)))
    (kt : Ends p.tables e below Fz (T.setTop (mkF m pc' Ls (.int v :: st)))) : Ends p.tables e below Fz (T.setTop (mkF m pc Ls st)) := by
  subst hp; exact Ends.of (fun _ q => XS.iloadN X.here hx rfl (hb hby hd) hl q) kt
theorem own_iload (X : Stand p l e R s m args below meth c T locs cells slots) (hx : p.tables.exec = Jvm.exec) (hby : c.code = bc) {k : Nat} {v : Int32} (hd : decode bc pc = .ok (.iload k, 2)) (hp : pc + 2 = pc') (hl : Ls[k]? = some (.val (.int v)))
    (kt : Ends p.tables e below Fz (T.setTop (mkF m pc' Ls (.int v :: st)))) : Ends p.tables e below Fz (T.setTop (mkF m pc Ls st)) := by
  subst hp; exact Ends.of (fun _ q => XS.iload X.here hx rfl (hb hby hd) hl q) kt
theorem own_aloadN (X : Stand p l e R s m args below meth c T locs cells slots) (hx : p.tables.exec = Jvm.exec) (hby : c.code = bc) {k : Fin 4} {v : Value} (hd : decode bc pc = .ok (.aload_n k, 1)) (hp : pc + 1 = pc') (hl : Ls[k.val]? = some (.val v)) (hv : v.isRef = true)
    (kt : Ends p.tables e below Fz (T.setTop (mkF m pc' Ls (v :: st)))) : Ends p.tables e below Fz (T.setTop (mkF m pc Ls st)) := by
  subst hp; exact Ends.of (fun _ q => XS.aloadN X.here hx rfl (hb hby hd) hl hv q) kt
theorem own_aload (X : Stand p l e R s m args below meth c T locs cells slots) (hx : p.tables.exec = Jvm.exec) (hby : c.code = bc) {k : Nat} {v : Value} (hd : decode bc pc = .ok (.aload k, 2)) (hp : pc + 2 = pc') (hl : Ls[k]? = some (.val v)) (hv : v.isRef = true)
    (kt : Ends p.tables e below Fz (T.setTop (mkF m pc' Ls (v :: st)))) : Ends p.tables e below Fz (T.setTop (mkF m pc Ls st)) := by
  subst hp; exact Ends.of (fun _ q => XS.aload X.here hx rfl (hb hby hd) hl hv q) kt
theorem own_istore (X : Stand p l e R s m args below meth c T locs cells slots) (hx : p.tables.exec = Jvm.exec) (hby : c.code = bc) {k : Nat} {v : Int32} (hd : decode bc pc = .ok (.istore k, 2)) (hp : pc + 2 = pc') (Ls' : Array Slot) (hl : storeLocals Ls k (.int v) = some Ls')
    (kt : Ends p.tables e below Fz (T.setTop (mkF m pc' Ls' st))) : Ends p.tables e below Fz (T.setTop (mkF m pc Ls (.int v :: st))) := by
  subst hp; exact Ends.of (fun _ q => XS.istore X.here hx rfl (hb hby hd) rfl hl q) kt
theorem own_astoreN (X : Stand p l e R s m args below meth c T locs cells slots) (hx : p.tables.exec = Jvm.exec) (hby : c.code = bc) {k : Fin 4} {v : Value} (hd : decode bc pc = .ok (.astore_n k, 1)) (hp : pc + 1 = pc') (Ls' : Array Slot) (hv : v.isRef = true) (hl : storeLocals Ls k.val v = some Ls')
    (kt : Ends p.tables e below Fz (T.setTop (mkF m pc' Ls' st))) : Ends p.tables e below Fz (T.setTop (mkF m pc Ls (v :: st))) := by
  subst hp; exact Ends.of (fun _ q => XS.astoreN X.here hx rfl (hb hby hd) rfl hv hl q) kt
theorem own_astore (X : Stand p l e R s m args below meth c T locs cells slots) (hx : p.tables.exec = Jvm.exec) (hby : c.code = bc) {k : Nat} {v : Value} (hd : decode bc pc = .ok (.astore k, 2)) (hp : pc + 2 = pc') (Ls' : Array Slot) (hv : v.isRef = true) (hl : storeLocals Ls k v = some Ls')
    (kt : Ends p.tables e below Fz (T.setTop (mkF m pc' Ls' st))) : Ends p.tables e below Fz (T.setTop (mkF m pc Ls (v :: st))) := by
  subst hp; exact Ends.of (fun _ q => XS.astore X.here hx rfl (hb hby hd) rfl hv hl q) kt
theorem own_iconst (X : Stand p l e R s m args below meth c T locs cells slots) (hx : p.tables.exec = Jvm.exec) (hby : c.code = bc) {i : Int} (hd : decode bc pc = .ok (.iconst i, 1)) (hp : pc + 1 = pc') (v : Int32) (hv : Int32.ofInt i = v)
    (kt : Ends p.tables e below Fz (T.setTop (mkF m pc' Ls (.int v :: st)))) : Ends p.tables e below Fz (T.setTop (mkF m pc Ls st)) := by
  subst hp; exact Ends.of (fun _ q => by subst hv; exact XS.iconst X.here hx rfl (hb hby hd) q) kt
theorem own_bipush (X : Stand p l e R s m args below meth c T locs cells slots) (hx : p.tables.exec = Jvm.exec) (hby : c.code = bc) {i : Int} (hd : decode bc pc = .ok (.bipush i, 2)) (hp : pc + 2 = pc') (v : Int32) (hv : (Int8.ofInt i).toInt32 = v)
    (kt : Ends p.tables e below Fz (T.setTop (mkF m pc' Ls (.int v :: st)))) : Ends p.tables e below Fz (T.setTop (mkF m pc Ls st)) := by
  subst hp; exact Ends.of (fun _ q => by subst hv; exact XS.bipush X.here hx rfl (hb hby hd) q) kt
theorem own_iadd (X : Stand p l e R s m args below meth c T locs cells slots) (hx : p.tables.exec = Jvm.exec) (hby : c.code = bc) {x y : Int32} (hd : decode bc pc = .ok (.iadd, 1)) (hp : pc + 1 = pc')
    (kt : Ends p.tables e below Fz (T.setTop (mkF m pc' Ls (.int (x + y) :: st)))) : Ends p.tables e below Fz (T.setTop (mkF m pc Ls (.int y :: .int x :: st))) := by
  subst hp; exact Ends.of (fun _ q => XS.iadd X.here hx rfl (hb hby hd) rfl q) kt
theorem own_iand (X : Stand p l e R s m args below meth c T locs cells slots) (hx : p.tables.exec = Jvm.exec) (hby : c.code = bc) {x y : Int32} (hd : decode bc pc = .ok (.iand, 1)) (hp : pc + 1 = pc')
    (kt : Ends p.tables e below Fz (T.setTop (mkF m pc' Ls (.int (x &&& y) :: st)))) : Ends p.tables e below Fz (T.setTop (mkF m pc Ls (.int y :: .int x :: st))) := by
  subst hp; exact Ends.of (fun _ q => XS.iand X.here hx rfl (hb hby hd) rfl q) kt
theorem own_i2b (X : Stand p l e R s m args below meth c T locs cells slots) (hx : p.tables.exec = Jvm.exec) (hby : c.code = bc) {x : Int32} (hd : decode bc pc = .ok (.i2b, 1)) (hp : pc + 1 = pc')
    (kt : Ends p.tables e below Fz (T.setTop (mkF m pc' Ls (.int x.toInt8.toInt32 :: st)))) : Ends p.tables e below Fz (T.setTop (mkF m pc Ls (.int x :: st))) := by
  subst hp; exact Ends.of (fun _ q => Jvm.Free.XT.i2b X.here hx rfl (hb hby hd) rfl q) kt
theorem own_irem (X : Stand p l e R s m args below meth c T locs cells slots) (hx : p.tables.exec = Jvm.exec) (hby : c.code = bc) {x y : Int32} (hd : decode bc pc = .ok (.irem, 1)) (hp : pc + 1 = pc') (hy : y ≠ 0)
    (kt : Ends p.tables e below Fz (T.setTop (mkF m pc' Ls (.int (x % y) :: st)))) : Ends p.tables e below Fz (T.setTop (mkF m pc Ls (.int y :: .int x :: st))) := by
  subst hp; exact Ends.of (fun _ q => iremM X hx rfl (hb hby hd) rfl hy q) kt
theorem own_icmp_eq (X : Stand p l e R s m args below meth c T locs cells slots) (hx : p.tables.exec = Jvm.exec) (hby : c.code = bc) {x y : Int32} {o : Int} {pcY pcN : Nat} (hd : decode bc pc = .ok (.if_icmp .eq o, 3)) (hpY : (pc : Int) + o = (pcY : Int)) (hpN : pc + 3 = pcN) (kY : x = y → Ends p.tables e below Fz (T.setTop (mkF m pcY Ls st))) (kN : ¬ x = y → Ends p.tables e below Fz (T.setTop (mkF m pcN Ls st))) : Ends p.tables e below Fz (T.setTop (mkF m pc Ls (.int y :: .int x :: st))) := by
  subst hpN; by_cases h : x = y
  · exact Ends.of (fun _ q => XS.icmpYes X.here hx rfl (pc0 := pc) (pc' := pcY) rfl (hb hby hd) rfl (Jvm.Free.XT.ii_eq_t h) (by rw [hpY]; exact Int.natCast_nonneg _) (by rw [hpY]; rfl) q) (kY h)
  · exact Ends.of (fun _ q => XS.icmpNo X.here hx rfl (hb hby hd) rfl (Jvm.Free.XT.ii_eq_f h) q) (kN h)
theorem own_icmp_ne (X : Stand p l e R s m args below meth c T locs cells slots) (hx : p.tables.exec = Jvm.exec) (hby : c.code = bc) {x y : Int32} {o : Int} {pcY pcN : Nat} (hd : decode bc pc = .ok (.if_icmp .ne o, 3)) (hpY : (pc : Int) + o = (pcY : Int)) (hpN : pc + 3 = pcN) (kY : ¬ x = y → Ends p.tables e below Fz (T.setTop (mkF m pcY Ls st))) (kN : x = y → Ends p.tables e below Fz (T.setTop (mkF m pcN Ls st))) : Ends p.tables e below Fz (T.setTop (mkF m pc Ls (.int y :: .int x :: st))) := by
  subst hpN; by_cases h : x = y
  · exact Ends.of (fun _ q => XS.icmpNo X.here hx rfl (hb hby hd) rfl (Jvm.Free.XT.ii_ne_f h) q) (kN h)
  · exact Ends.of (fun _ q => XS.icmpYes X.here hx rfl (pc0 := pc) (pc' := pcY) rfl (hb hby hd) rfl (Jvm.Free.XT.ii_ne_t h) (by rw [hpY]; exact Int.natCast_nonneg _) (by rw [hpY]; rfl) q) (kY h)
theorem own_icmp_le (X : Stand p l e R s m args below meth c T locs cells slots) (hx : p.tables.exec = Jvm.exec) (hby : c.code = bc) {x y : Int32} {o : Int} {pcY pcN : Nat} (hd : decode bc pc = .ok (.if_icmp .le o, 3)) (hpY : (pc : Int) + o = (pcY : Int)) (hpN : pc + 3 = pcN) (kY : x.toInt ≤ y.toInt → Ends p.tables e below Fz (T.setTop (mkF m pcY Ls st))) (kN : y.toInt < x.toInt → Ends p.tables e below Fz (T.setTop (mkF m pcN Ls st))) : Ends p.tables e below Fz (T.setTop (mkF m pc Ls (.int y :: .int x :: st))) := by
  subst hpN; by_cases h : y < x
  · exact Ends.of (fun _ q => XS.icmpNo X.here hx rfl (hb hby hd) rfl (Jvm.Free.XT.ii_le_f h) q) (kN (Int32.lt_iff_toInt_lt.mp h))
  · exact Ends.of (fun _ q => XS.icmpYes X.here hx rfl (pc0 := pc) (pc' := pcY) rfl (hb hby hd) rfl (Jvm.Free.XT.ii_le_t h) (by rw [hpY]; exact Int.natCast_nonneg _) (by rw [hpY]; rfl) q) (kY (Int.not_lt.mp fun q => h (Int32.lt_iff_toInt_lt.mpr q)))
theorem own_if_ne (X : Stand p l e R s m args below meth c T locs cells slots) (hx : p.tables.exec = Jvm.exec) (hby : c.code = bc) {x : Int32} {o : Int} {pcY pcN : Nat} (hd : decode bc pc = .ok (.ifCond .ne o, 3)) (hpY : (pc : Int) + o = (pcY : Int)) (hpN : pc + 3 = pcN) (kY : ¬ x = 0 → Ends p.tables e below Fz (T.setTop (mkF m pcY Ls st))) (kN : x = 0 → Ends p.tables e below Fz (T.setTop (mkF m pcN Ls st))) : Ends p.tables e below Fz (T.setTop (mkF m pc Ls (.int x :: st))) := by
  subst hpN; by_cases h : x = (0 : Int32)
  · exact Ends.of (fun _ q => XS.ifNo X.here hx rfl (hb hby hd) rfl (Jvm.Free.XT.i0_ne_f h) q) (kN h)
  · exact Ends.of (fun _ q => XS.ifYes X.here hx rfl (pc0 := pc) (pc' := pcY) rfl (hb hby hd) rfl (Jvm.Free.XT.i0_ne_t h) (by rw [hpY]; exact Int.natCast_nonneg _) (by rw [hpY]; rfl) q) (kY h)
theorem own_if_le (X : Stand p l e R s m args below meth c T locs cells slots) (hx : p.tables.exec = Jvm.exec) (hby : c.code = bc) {x : Int32} {o : Int} {pcY pcN : Nat} (hd : decode bc pc = .ok (.ifCond .le o, 3)) (hpY : (pc : Int) + o = (pcY : Int)) (hpN : pc + 3 = pcN) (kY : x.toInt ≤ (0 : Int) → Ends p.tables e below Fz (T.setTop (mkF m pcY Ls st))) (kN : (0 : Int) < x.toInt → Ends p.tables e below Fz (T.setTop (mkF m pcN Ls st))) : Ends p.tables e below Fz (T.setTop (mkF m pc Ls (.int x :: st))) := by
  subst hpN; by_cases h : (0 : Int32) < x
  · exact Ends.of (fun _ q => XS.ifNo X.here hx rfl (hb hby hd) rfl (Jvm.Free.XT.i0_le_f h) q) (kN (Int32.lt_iff_toInt_lt.mp h))
  · exact Ends.of (fun _ q => XS.ifYes X.here hx rfl (pc0 := pc) (pc' := pcY) rfl (hb hby hd) rfl (Jvm.Free.XT.i0_le_t h) (by rw [hpY]; exact Int.natCast_nonneg _) (by rw [hpY]; rfl) q) (kY (Int.not_lt.mp fun q => h (Int32.lt_iff_toInt_lt.mpr q)))
theorem own_acmp_ne (X : Stand p l e R s m args below meth c T locs cells slots) (hx : p.tables.exec = Jvm.exec) (hby : c.code = bc) {x y : Value} {o : Int} {pcY pcN : Nat} (hd : decode bc pc = .ok (.if_acmp .ne o, 3)) (hpY : (pc : Int) + o = (pcY : Int)) (hpN : pc + 3 = pcN) (h1 : x.isRef = true) (h2 : y.isRef = true) (kY : ¬ x = y → Ends p.tables e below Fz (T.setTop (mkF m pcY Ls st))) (kN : x = y → Ends p.tables e below Fz (T.setTop (mkF m pcN Ls st))) : Ends p.tables e below Fz (T.setTop (mkF m pc Ls (y :: x :: st))) := by
  subst hpN; by_cases h : x = y
  · exact Ends.of (fun _ q => Jvm.RoadKit.acmp (g := mkF m pc Ls (y :: x :: st)) X hx rfl h1 h2 (pc0 := pc) (same := true) rfl (hb hby hd) rfl (decide_eq_true h) (by rw [hpY]; exact Int.natCast_nonneg _) rfl (by simpa [acV] using q)) (kN h)
  · exact Ends.of (fun _ q => Jvm.RoadKit.acmp (g := mkF m pc Ls (y :: x :: st)) X hx rfl h1 h2 (pc0 := pc) (same := false) rfl (hb hby hd) rfl (decide_eq_false h) (by rw [hpY]; exact Int.natCast_nonneg _) rfl (by simpa [acV, hpY] using q)) (kY h)
theorem own_ifnonnullYes (X : Stand p l e R s m args below meth c T locs cells slots) (hx : p.tables.exec = Jvm.exec) (hby : c.code = bc) {b : Addr} {o : Int} {pcY : Nat} (hd : decode bc pc = .ok (.ifnonnull o, 3)) (hpY : (pc : Int) + o = (pcY : Int)) (kt : Ends p.tables e below Fz (T.setTop (mkF m pcY Ls st))) : Ends p.tables e below Fz (T.setTop (mkF m pc Ls (.ref b :: st))) :=
  Ends.of (fun _ q => Jvm.Free.XT.ifnonnullYes X.here hx rfl (pc0 := pc) (pc' := pcY) rfl (hb hby hd) rfl (by rw [hpY]; exact Int.natCast_nonneg _) (by rw [hpY]; rfl) q) kt
theorem own_ret (X : Stand p l e R s m args below meth c T locs cells slots) (hx : p.tables.exec = Jvm.exec) (hby : c.code = bc) {v : Value} {t : FieldType} {i : Instr} (hret : meth.sig.returnType = some t) (hk : meth.locks = false) (hd : decode bc pc = .ok (i, 1)) (v' : Value) (hn : narrow t v = v')
    (hi : (i = .ireturn ∧ (t = .int ∨ t = .boolean ∨ t = .byte ∨ t = .char ∨ t = .short) ∧ ∃ z, v = .int z) ∨ (i = .lreturn ∧ t = .long ∧ ∃ z, v = .long z) ∨ (i = .areturn ∧ t.isReference = true ∧ v.isRef = true))
    (hC : cells ≤ C) (hS : slots ≤ S) (q : Q (some v') T.heap locs) : Ends p.tables e below (OwnFin s Q C S) (T.setTop (mkF m pc Ls (v :: st))) := by
  obtain ⟨fs, hr, hrun, hended, hW, hsame⟩ := X.leave (v := some v') (fun h => by rw [hret] at h; cases h) hk
  refine ⟨_, _, ?_, hrun, hended, _, _, rfl, q, ⟨_, rfl⟩, hW, hsame.mono hC hS⟩
  have hm' : T.vm.method? m = some meth := X.method'
  show Steps p.tables e below (T.setTop { method := m, pc := pc, locals := Ls, stack := v :: st, locked := none }) _
  have hd' := hb hby hd
  rcases hi with ⟨rfl, ht, z, rfl⟩ | ⟨rfl, rfl, z, rfl⟩ | ⟨rfl, ht, hv⟩
  · rcases ht with rfl | rfl | rfl | rfl | rfl <;> (jvm_step X.here [X.here.top, hx, hd', hm', hret, hn]; first | (intro acts; rw [hr _ acts rfl rfl rfl]) | rw [hr _ _ rfl rfl rfl]) <;> exact Steps.refl _
  · have hn2 : Value.long z = v' := hn
    subst hn2
    jvm_step X.here [X.here.top, hx, hd', hm', hret, hn]
    first | (intro acts; rw [hr _ acts rfl rfl rfl]) | rw [hr _ _ rfl rfl rfl]
    exact Steps.refl _
  · have hn2 : v = v' := by rw [← hn]; rcases ref_cases hv with rfl | ⟨z, rfl⟩ <;> cases t <;> rfl
    subst hn2
    jvm_step X.here [X.here.top, hx, hd', hm', hret, hn, ht, hv]
    first | (intro acts; rw [hr _ acts rfl rfl rfl]) | rw [hr _ _ rfl rfl rfl]
    exact Steps.refl _
end Own
section OwnH
variable {p : Program} {l : Launch} {e : Env} {R : Room} {s : State} {m : MethodId} {args : Array Value} {below : List Frame} {meth : Method} {c : Code} {T : State} {locs : List Loc} {cells slots : Nat}
variable {Fz : Outcome → State → Prop} {bc : ByteArray} {pc pc' : Nat} {Ls Ls' : Array Slot} {st : List Value}
variable {Z : State} {a0 : Array Value} {h h0 : Heap} {n0 : Nat}
abbrev OwnMet (l : Launch) (Z : State) (y : MethodName) (bytes : ByteArray) (maxL : Nat) (rt : Option FieldType) (ws : List Jvm.Cond) (rm : Room) (as' : Array Value) (h0 : Heap) (Qc : Option Value → Heap → List Loc → Prop) : Prop :=
  MetFree l y (head1 (Jvm.Cond.code y bytes maxL rt :: ws) rm) (fun a U => a = as' ∧ Z.Warmed39 U.vm ∧ U.heap = h0) (fun _ _ _ _ _ => True) (fun _ U o U' => ∃ v L, o = .returned v ∧ Qc v U'.heap L ∧ FrameEnd U o U' L rm.cells rm.slots)
theorem own_body {y : MethodName} {bytes : ByteArray} {maxL : Nat} {rt : Option FieldType} {ws : List Jvm.Cond} {rm : Room} {as' : Array Value} {Qc : Option Value → Heap → List Loc → Prop} {Ls0 : Array Slot} (hpl : plainFor y = true) (hef : ∀ m : MethodId, entryFrame m as' maxL = mkF m 0 Ls0 [])
    (body : ∀ (p : Program) (e : Env) (s : State) (m : MethodId) (below : List Frame) (meth : Method) (c : Code) (s₁ : State), Stand p l e rm s m as' below meth c s₁ [] 0 0 → p.tables.exec = Jvm.exec → c.code = bytes → c.maxLocals = maxL → s.vm.findClass y.cls = some m.cls → meth.name = y.name → meth.sig.returnType = rt → meth.locks = false → Z.Warmed39 s.vm → s₁.heap = h0 → Ends p.tables e below (OwnFin s Qc rm.cells rm.slots) (s₁.setTop (mkF m 0 Ls0 []))) :
    OwnMet l Z y bytes maxL rt ws rm as' h0 Qc := by
  refine MetFree.of_bodySF hpl hisR ?_
  intro p e s m args below meth c s₁ Bd hml0 hP hK
  obtain ⟨rfl, hZ, hh⟩ := hP
  have e0 : s₁.heap = h0 := by rw [← hh, Bd.state]; rfl
  rw [hef]
  exact body p e s m below meth c s₁ (Stand.of_body Bd) Bd.exec Bd.bytes hml0 (findClass_of_methodNamed Bd.named) (name_of_methodNamed Bd.named Bd.method).1 Bd.returns Bd.notSynchronized hZ e0
theorem own_static (X : Stand p l e R s m args below meth c T locs cells slots) (hx : p.tables.exec = Jvm.exec) (hby : c.code = bc) (hZ : Z.Warmed39 s.vm) {own : String} {index : Nat} {y : MethodName} {bytes : ByteArray} {maxL : Nat} {rt r : Option FieldType} {ps : List FieldType} {rm : Room} {argsL rest : List Value} {Qc : Option Value → Heap → List Loc → Prop} {W : Nat}
    (hown : s.vm.findClass own = some m.cls) (w1 : (Jvm.Cond.methodLink own index y).before a0 Z = true) (w2 : (Jvm.Cond.static y).before a0 Z = true) (w3 : (Jvm.Cond.initialized y.cls).before a0 Z = true) (w4 : (Jvm.Cond.code y bytes maxL rt).before a0 Z = true) (hy : y.cls ≠ "java/lang/invoke/MethodHandle" ∧ y.cls ≠ "java/lang/invoke/VarHandle")
    (hM : OwnMet l Z y bytes maxL rt [] rm argsL.toArray h Qc) (eT : T.heap = h) (hml : Ls.size = c.maxLocals) (hlen : parseMethodDescriptor y.desc = some ⟨ps, r⟩) (hl : argsL.length = ps.length) (hf : rm.frames + 1 ≤ R.frames) (hW : (rest.map fun v => v.category).sum ≤ W) (hlo : W + (maxL + 11) + rm.locals ≤ R.locals) (hc : cells + rm.cells ≤ R.cells) (hs : slots + rm.slots ≤ R.slots)
    (hd : decode bc pc = .ok (.invokestatic index, 3)) (hp : pc + 3 = pc') (hst : st = argsL.reverse ++ rest)
    (kt : ∀ v T' L, Stand p l e R s m args below meth c T' (locs ++ L) (cells + rm.cells) (slots + rm.slots) → Qc v T'.heap L → Ends p.tables e below Fz (T'.setTop (mkF m pc' Ls (v.toList ++ rest)))) : Ends p.tables e below Fz (T.setTop (mkF m pc Ls st)) := by
  subst hp hst
  obtain ⟨v, vm₁, ⟨T', L', k', n'⟩, -, X', ⟨Lc, hQ, l', y', z'⟩, st⟩ := Jvm.LawKit.callS X hx (y := y) hown (mvT hZ w1) (mvT hZ w2) (mvT hZ w3) (mvT hZ w4) hy (backOf (W := W) hM hZ w4 w3 hf hlo) (g := mkF m pc Ls (argsL.reverse ++ rest)) rfl hml (argsL := argsL) (rest := rest) (lenOf hlen hl) rfl (by show 2 * 0 + _ ≤ _; omega) (hb hby hd) (fun _ _ => ⟨rfl, eT, hc, hs⟩)
  dsimp only [Pt.U, Pt.locs, Pt.cells, Pt.slots] at X' l' y' z' st hQ
  subst l' y' z'
  exact Ends.of st (kt v T' Lc X' hQ)
theorem own_virtual (X : Stand p l e R s m args below meth c T locs cells slots) (hx : p.tables.exec = Jvm.exec) (hby : c.code = bc) (hZ : Z.Warmed39 s.vm) {own Cn : String} {index : Nat} {y : MethodName} {bytes : ByteArray} {maxL : Nat} {rt r : Option FieldType} {ps : List FieldType} {rm : Room} {a : Addr} {argsL rest : List Value} {Qc : Option Value → Heap → List Loc → Prop} {W : Nat}
    (hown : s.vm.findClass own = some m.cls) (w1 : (Jvm.Cond.methodLink own index y).before a0 Z = true) (wd : (Jvm.Cond.declares y).before a0 Z = true) (ws : (Jvm.Cond.selects Cn y y).before a0 Z = true) (w2 : (Jvm.Cond.instanceMethod y).before a0 Z = true) (w3 : (Jvm.Cond.initialized y.cls).before a0 Z = true) (w4 : (Jvm.Cond.code y bytes maxL rt).before a0 Z = true) (hy : y.cls ≠ "java/lang/invoke/MethodHandle" ∧ y.cls ≠ "java/lang/invoke/VarHandle")
    (hM : OwnMet l Z y bytes maxL rt [] rm (Value.ref a :: argsL).toArray h Qc) (E : Exa Z h a Cn) (eT : T.heap = h) (hml : Ls.size = c.maxLocals) (hlen : parseMethodDescriptor y.desc = some ⟨ps, r⟩) (hl : argsL.length = ps.length) (hf : rm.frames + 1 ≤ R.frames) (hW : (rest.map fun v => v.category).sum ≤ W) (hlo : W + (maxL + 11) + rm.locals ≤ R.locals) (hc : cells + rm.cells ≤ R.cells) (hs : slots + rm.slots ≤ R.slots)
    (hd : decode bc pc = .ok (.invokevirtual index, 3)) (hp : pc + 3 = pc') (hst : st = argsL.reverse ++ Value.ref a :: rest)
    (kt : ∀ v T' L, Stand p l e R s m args below meth c T' (locs ++ L) (cells + rm.cells) (slots + rm.slots) → Qc v T'.heap L → Ends p.tables e below Fz (T'.setTop (mkF m pc' Ls (v.toList ++ rest)))) : Ends p.tables e below Fz (T.setTop (mkF m pc Ls st)) := by
  subst hp hst
  obtain ⟨cq, kq, qa, qb, qc⟩ := isOf hZ eT E
  obtain ⟨v, vm₁, ⟨T', L', k', n'⟩, -, X', ⟨Lc, hQ, l', y', z'⟩, st⟩ := X.virtualBack hx (y := y) (z := y) hown (mvT hZ w1) (mvT hZ wd) (notFace_of_selects (args := #[]) (mvT hZ ws)) (mvT hZ ws) (mvT hZ w2) hy (backOf (W := W) hM hZ w4 w3 hf hlo) qa qc (g := mkF m pc Ls (argsL.reverse ++ Value.ref a :: rest)) rfl hml (Steps.refl _) (argsL := argsL) (rest := rest) (lenOf hlen hl) rfl (by show 2 * 0 + _ ≤ _; omega) (hb hby hd) (fun _ _ => ⟨rfl, eT, hc, hs⟩)
  dsimp only [Pt.U, Pt.locs, Pt.cells, Pt.slots] at X' l' y' z' st hQ
  subst l' y' z'
  exact Ends.tr st (kt v T' Lc X' hQ)
theorem own_getfield (X : Stand p l e R s m args below meth c T locs cells slots) (hx : p.tables.exec = Jvm.exec) (hby : c.code = bc) (hZ : Z.Warmed39 s.vm) {own R0 O n d host : String} {index : Nat} {a : Addr} {v : Value}
    (hown : s.vm.findClass own = some m.cls) (w : (Jvm.Cond.fieldLink own index R0 n d).before a0 Z = true ∨ (Jvm.Cond.fieldLinkNest own index R0 n d host).before a0 Z = true) (via : Via Z R0 O n d) (eT : T.heap = h) (F : Fld Z h a O n d v)
    (hd : decode bc pc = .ok (.getfield index, 3)) (hp : pc + 3 = pc')
    (kt : ∀ T', Stand p l e R s m args below meth c T' locs cells slots → T'.heap = h → Ends p.tables e below Fz (T'.setTop (mkF m pc' Ls (v :: st)))) : Ends p.tables e below Fz (T.setTop (mkF m pc Ls (.ref a :: st))) := by
  subst hp
  obtain ⟨T', X', e', st⟩ := getF X hx hZ hown w via eT F (g := mkF m pc Ls (.ref a :: st)) rfl rfl (hb hby hd)
  exact Ends.of st (kt T' X' e')
theorem own_getstatic (X : Stand p l e R s m args below meth c T locs cells slots) (hx : p.tables.exec = Jvm.exec) (hby : c.code = bc) (hZ : Z.Warmed39 s.vm) {own R0 O n d host : String} {index : Nat} {v : Value}
    (hown : s.vm.findClass own = some m.cls) (w : (Jvm.Cond.fieldLink own index R0 n d).before a0 Z = true ∨ (Jvm.Cond.fieldLinkNest own index R0 n d host).before a0 Z = true) (via : Via Z R0 O n d) (eT : T.heap = h) (F : Sta Z h O n d v)
    (hd : decode bc pc = .ok (.getstatic index, 3)) (hp : pc + 3 = pc')
    (kt : ∀ T', Stand p l e R s m args below meth c T' locs cells slots → T'.heap = h → Ends p.tables e below Fz (T'.setTop (mkF m pc' Ls (v :: st)))) : Ends p.tables e below Fz (T.setTop (mkF m pc Ls st)) := by
  subst hp
  obtain ⟨T', X', e', st⟩ := getS2 X hx hZ hown w via eT F (g := mkF m pc Ls st) rfl (hb hby hd)
  exact Ends.of st (kt T' X' e')
theorem own_newarray (X : Stand p l e R s m args below meth c T locs cells slots) (hx : p.tables.exec = Jvm.exec) (hby : c.code = bc) (hZ : Z.Warmed39 s.vm) {aty : ArrayType} {n : Int32}
    (w : (Jvm.Cond.arrayClass (newarray.typeOf aty)).before a0 Z = true) (eT : T.heap = h) (hn : ¬ n < 0) (cap : Nat) (hcap : n.toNatClampNeg ≤ cap) (hb8 : cap * 8 ≤ 536870912) (hc : cells + 1 ≤ R.cells) (hl : slots + cap ≤ R.slots)
    (ty : FieldType) (hty : newarray.typeOf aty = ty) (vs : List Value) (hvs : List.replicate n.toNatClampNeg (defaultValue ty) = vs)
    (hd : decode bc pc = .ok (.newarray aty, 2)) (hp : pc + 2 = pc')
    (kt : ∀ T' h' b k, Stand p l e R s m args below meth c T' locs (cells + 1) (slots + cap) → T'.heap = h' → b = h.size → Ext h h' → Arv Z h' b k ty n vs (defaultValue ty) → Ends p.tables e below Fz (T'.setTop (mkF m pc' Ls (.ref b :: st)))) : Ends p.tables e below Fz (T.setTop (mkF m pc Ls (.int n :: st))) := by
  subst hp hty hvs
  obtain ⟨T', h', k', X', e', E', A', st⟩ := newP X hx hZ w eT (g := mkF m pc Ls (.int n :: st)) rfl (hb hby hd) rfl hn hcap hb8 hc hl
  exact Ends.of st (kt T' h' _ k' X' e' rfl E' ((Arv.new A' hn).pad (pad_rep [] _ _)))
theorem own_arraylength (X : Stand p l e R s m args below meth c T locs cells slots) (hx : p.tables.exec = Jvm.exec) (hby : c.code = bc) (hZ : Z.Warmed39 s.vm) {ty : FieldType} {a : Addr} {k : ClassId} {n : Int32} {vs : List Value} {dv : Value}
    (eT : T.heap = h) (V : Arv Z h a k ty n vs dv) (hd : decode bc pc = .ok (.arraylength, 1)) (hp : pc + 1 = pc')
    (kt : Ends p.tables e below Fz (T.setTop (mkF m pc' Ls (.int n :: st)))) : Ends p.tables e below Fz (T.setTop (mkF m pc Ls (.ref a :: st))) := by
  subst hp
  obtain ⟨cl, A, -, Sz, Nn, -, -⟩ := V
  exact Ends.of (fun _ q => X.arraylength hx (by rw [eT]; exact A.1) (State.isArrayOf_alike hZ.alike A.2.1) (g := mkF m pc Ls (.ref a :: st)) rfl rfl (hb hby hd) _ (by rw [len_of Sz Nn]; exact q)) kt
theorem own_baload (X : Stand p l e R s m args below meth c T locs cells slots) (hx : p.tables.exec = Jvm.exec) (hby : c.code = bc) (hZ : Z.Warmed39 s.vm) {a : Addr} {k : ClassId} {n j : Int32} {vs : List Value} {dv : Value} (v : Int32)
    (eT : T.heap = h) (V : Arv Z h a k .byte n vs dv) (hj : ¬ j < 0 ∧ j < n) (hv : vs.getD j.toNatClampNeg dv = .int v) (hd : decode bc pc = .ok (.baload, 1)) (hp : pc + 1 = pc')
    (kt : Ends p.tables e below Fz (T.setTop (mkF m pc' Ls (.int v :: st)))) : Ends p.tables e below Fz (T.setTop (mkF m pc Ls (.int j :: .ref a :: st))) := by
  subst hp
  obtain ⟨cl, A, -, Sz, Nn, H, -⟩ := V
  exact Ends.of (fun _ q => X.baloadBytes hx (j := j) (v := .int v) (by rw [eT]; exact A.1) (State.isArrayOf_alike hZ.alike A.2.1) A.2.2 (inb_of Sz hj) (H.at (inb_of Sz hj) hv) (g := mkF m pc Ls (.int j :: .ref a :: st)) rfl rfl (hb hby hd) _ q) kt
theorem own_bastore (X : Stand p l e R s m args below meth c T locs cells slots) (hx : p.tables.exec = Jvm.exec) (hby : c.code = bc) (hZ : Z.Warmed39 s.vm) {a : Addr} {k : ClassId} {n j : Int32} {vs : List Value} {dv : Value} {x : Int32} (v' : Int32) (hv' : (nar .byte x) = v')
    (eT : T.heap = h) (V : Arv Z h a k .byte n vs dv) (hj : ¬ j < 0 ∧ j < n) (i : Nat) (hi : j.toNatClampNeg = i) (hil : i < vs.length) (vs' : List Value) (hvs : vs.set i (.int v') = vs') (hfit : fits .byte (.int v') = true) (N : Fr n0 locs) (ga : n0 ≤ a) (hd : decode bc pc = .ok (.bastore, 1)) (hp : pc + 1 = pc')
    (kt : ∀ T' h' L', Stand p l e R s m args below meth c T' L' cells slots → T'.heap = h' → Wr h h' a j.toNatClampNeg (.int v') → Arv Z h' a k .byte n vs' dv → Fr n0 L' → Ends p.tables e below Fz (T'.setTop (mkF m pc' Ls st))) : Ends p.tables e below Fz (T.setTop (mkF m pc Ls (.int x :: .int j :: .ref a :: st))) := by
  subst hp hvs hv'
  obtain ⟨cl, A, q1, Sz, Nn, H, G⟩ := V
  obtain ⟨T', h', X', e', W', st⟩ := stB X hx hZ eT A (j := j) (inb_of Sz hj) (g := mkF m pc Ls (.int x :: .int j :: .ref a :: st)) rfl rfl (hb hby hd)
  exact Ends.of st (kt T' h' _ X' e' W' (Arv.set A q1 Sz Nn H G hfit W' i hi hil) (Fr.snoc X' N ga))
theorem own_ldcI (X : Stand p l e R s m args below meth c T locs cells slots) (hx : p.tables.exec = Jvm.exec) (hby : c.code = bc) (hZ : Z.Warmed39 s.vm) {own : String} {index : Nat} {v : Int32}
    (hown : s.vm.findClass own = some m.cls) (w : (Jvm.Cond.constant own index v).before a0 Z = true) (hd : decode bc pc = .ok (.ldc index, 2)) (hp : pc + 2 = pc')
    (kt : Ends p.tables e below Fz (T.setTop (mkF m pc' Ls (.int v :: st)))) : Ends p.tables e below Fz (T.setTop (mkF m pc Ls st)) := by
  subst hp; exact Ends.of (X.ldcInt hx hown (mvT hZ w) (g := mkF m pc Ls st) rfl (hb hby hd)) kt
theorem own_arraycopy (X : Stand p l e R s m args below meth c T locs cells slots) (hx : p.tables.exec = Jvm.exec) (hby : c.code = bc) (hZ : Z.Warmed39 s.vm) {own : String} {index : Nat} {a b : Addr} {k k' : ClassId} {ty ty' : FieldType} {z z' sp dp nn : Int32} {vs vd us : List Value} {dv dd : Value}
    (hown : s.vm.findClass own = some m.cls) (w1 : (Jvm.Cond.methodLink own index Jvm.Stand.acN).before a0 Z = true) (w2 : (Jvm.Cond.native Jvm.Stand.acN).before a0 Z = true) (w3 : (Jvm.Cond.static Jvm.Stand.acN).before a0 Z = true) (w4 : (Jvm.Cond.initialized "java/lang/System").before a0 Z = true) (eT : T.heap = h)
    (A : Arv Z h a k ty z vs dv) (B : Arv Z h b k' ty' z' vd dd) (hty : (ty = ty' ∧ refKind ty = false) ∨ (refKind ty = true ∧ refKind ty' = true ∧ StoL Z h b us))
    (h1 : ¬ sp < 0) (h2 : ¬ dp < 0) (h3 : ¬ nn < 0) (h4 : sp.toNatClampNeg + nn.toNatClampNeg ≤ z.toNatClampNeg) (h5 : dp.toNatClampNeg + nn.toNatClampNeg ≤ z'.toNatClampNeg)
    (hus : us = (List.range nn.toNatClampNeg).map fun i => vs.getD (sp.toNatClampNeg + i) dv) (hl : dp.toNatClampNeg + nn.toNatClampNeg ≤ vd.length) (N : Fr n0 locs) (ge : n0 ≤ b) (vs' : List Value) (hvs : vd.take dp.toNatClampNeg ++ us ++ vd.drop (dp.toNatClampNeg + nn.toNatClampNeg) = vs')
    (hml : Ls.size = c.maxLocals) (hf : 1 ≤ R.frames) {W : Nat} (hW : (st.map fun v => v.category).sum ≤ W) (hlo : W + (nativeFrameWords "java/lang/System" "arraycopy" 5 + 11) ≤ R.locals)
    (hd : decode bc pc = .ok (.invokestatic index, 3)) (hp : pc + 3 = pc')
    (kt : ∀ T' h' L, Stand p l e R s m args below meth c T' L cells slots → T'.heap = h' → Fr n0 L → Keep h h' [b] → Arv Z h' b k' ty' z' vs' dd → Ends p.tables e below Fz (T'.setTop (mkF m pc' Ls st))) : Ends p.tables e below Fz (T.setTop (mkF m pc Ls (.int nn :: .int dp :: .ref b :: .int sp :: .ref a :: st))) := by
  subst hp hvs
  obtain ⟨T', h', L, X', e', N', K', V', st⟩ := cpA X hx hZ hown w1 w2 w3 w4 eT A B hty h1 h2 h3 h4 h5 hus hl N ge (g := mkF m pc Ls (.int nn :: .int dp :: .ref b :: .int sp :: .ref a :: st)) rfl hml rfl (hb hby hd) hf (W := W) (by show 2 * 0 + _ ≤ _; omega) hlo
  exact Ends.of st (kt T' h' L X' e' N' K' V')
theorem own_ge {b : Addr} (O : Old Z n0 h) (g : b = h.size) : n0 ≤ b := by rw [g]; exact O.1 ▸ O.2.1
theorem own_lt {x b : Addr} (hx : x < h.size) (g : b = h.size) : x ≠ b := by rw [g]; exact Nat.ne_of_lt hx
end OwnH

def OwnG (Z : State) (a_PROBE a_LAST_VERSION a_VERSION a_LAST_MESSAGE a_EPHEMERAL a_MESSAGE_END a_CHUNK a_QUEUE a_SESSION a_DELETED_NODE a_CLAIM a_NODE a_COUNTER a_MESSAGE a_UPLOAD : Addr) : Prop := (Sta Z Z.heap "com/example/lyrebird/lyrebird/store/Prefix" "PROBE" "Lcom/example/lyrebird/lyrebird/store/Prefix;" (.ref a_PROBE)) ∧ (Exa Z Z.heap a_PROBE "com/example/lyrebird/lyrebird/store/Prefix") ∧ (Fld Z Z.heap a_PROBE "com/example/lyrebird/lyrebird/store/Prefix" "first" "B" (.int (0 : Int32))) ∧ (Sta Z Z.heap "com/example/lyrebird/lyrebird/store/Prefix" "LAST_VERSION" "Lcom/example/lyrebird/lyrebird/store/Prefix;" (.ref a_LAST_VERSION)) ∧ (Exa Z Z.heap a_LAST_VERSION "com/example/lyrebird/lyrebird/store/Prefix") ∧ (Fld Z Z.heap a_LAST_VERSION "com/example/lyrebird/lyrebird/store/Prefix" "first" "B" (.int (115 : Int32))) ∧ (Sta Z Z.heap "com/example/lyrebird/lyrebird/store/Prefix" "VERSION" "Lcom/example/lyrebird/lyrebird/store/Prefix;" (.ref a_VERSION)) ∧ (Exa Z Z.heap a_VERSION "com/example/lyrebird/lyrebird/store/Prefix") ∧ (Fld Z Z.heap a_VERSION "com/example/lyrebird/lyrebird/store/Prefix" "first" "B" (.int (118 : Int32))) ∧ (Sta Z Z.heap "com/example/lyrebird/lyrebird/store/Prefix" "LAST_MESSAGE" "Lcom/example/lyrebird/lyrebird/store/Prefix;" (.ref a_LAST_MESSAGE)) ∧ (Exa Z Z.heap a_LAST_MESSAGE "com/example/lyrebird/lyrebird/store/Prefix") ∧ (Fld Z Z.heap a_LAST_MESSAGE "com/example/lyrebird/lyrebird/store/Prefix" "first" "B" (.int (78 : Int32))) ∧ (Sta Z Z.heap "com/example/lyrebird/lyrebird/store/Prefix" "EPHEMERAL" "Lcom/example/lyrebird/lyrebird/store/Prefix;" (.ref a_EPHEMERAL)) ∧ (Exa Z Z.heap a_EPHEMERAL "com/example/lyrebird/lyrebird/store/Prefix") ∧ (Fld Z Z.heap a_EPHEMERAL "com/example/lyrebird/lyrebird/store/Prefix" "first" "B" (.int (101 : Int32))) ∧ (Sta Z Z.heap "com/example/lyrebird/lyrebird/store/Prefix" "MESSAGE_END" "Lcom/example/lyrebird/lyrebird/store/Prefix;" (.ref a_MESSAGE_END)) ∧ (Exa Z Z.heap a_MESSAGE_END "com/example/lyrebird/lyrebird/store/Prefix") ∧ (Fld Z Z.heap a_MESSAGE_END "com/example/lyrebird/lyrebird/store/Prefix" "first" "B" (.int (69 : Int32))) ∧ (Sta Z Z.heap "com/example/lyrebird/lyrebird/store/Prefix" "CHUNK" "Lcom/example/lyrebird/lyrebird/store/Prefix;" (.ref a_CHUNK)) ∧ (Exa Z Z.heap a_CHUNK "com/example/lyrebird/lyrebird/store/Prefix") ∧ (Fld Z Z.heap a_CHUNK "com/example/lyrebird/lyrebird/store/Prefix" "first" "B" (.int (107 : Int32))) ∧ (Sta Z Z.heap "com/example/lyrebird/lyrebird/store/Prefix" "QUEUE" "Lcom/example/lyrebird/lyrebird/store/Prefix;" (.ref a_QUEUE)) ∧ (Exa Z Z.heap a_QUEUE "com/example/lyrebird/lyrebird/store/Prefix") ∧ (Fld Z Z.heap a_QUEUE "com/example/lyrebird/lyrebird/store/Prefix" "first" "B" (.int (81 : Int32))) ∧ (Sta Z Z.heap "com/example/lyrebird/lyrebird/store/Prefix" "SESSION" "Lcom/example/lyrebird/lyrebird/store/Prefix;" (.ref a_SESSION)) ∧ (Exa Z Z.heap a_SESSION "com/example/lyrebird/lyrebird/store/Prefix") ∧ (Fld Z Z.heap a_SESSION "com/example/lyrebird/lyrebird/store/Prefix" "first" "B" (.int (83 : Int32))) ∧ (Sta Z Z.heap "com/example/lyrebird/lyrebird/store/Prefix" "DELETED_NODE" "Lcom/example/lyrebird/lyrebird/store/Prefix;" (.ref a_DELETED_NODE)) ∧ (Exa Z Z.heap a_DELETED_NODE "com/example/lyrebird/lyrebird/store/Prefix") ∧ (Fld Z Z.heap a_DELETED_NODE "com/example/lyrebird/lyrebird/store/Prefix" "first" "B" (.int (100 : Int32))) ∧ (Sta Z Z.heap "com/example/lyrebird/lyrebird/store/Prefix" "CLAIM" "Lcom/example/lyrebird/lyrebird/store/Prefix;" (.ref a_CLAIM)) ∧ (Exa Z Z.heap a_CLAIM "com/example/lyrebird/lyrebird/store/Prefix") ∧ (Fld Z Z.heap a_CLAIM "com/example/lyrebird/lyrebird/store/Prefix" "first" "B" (.int (67 : Int32))) ∧ (Sta Z Z.heap "com/example/lyrebird/lyrebird/store/Prefix" "NODE" "Lcom/example/lyrebird/lyrebird/store/Prefix;" (.ref a_NODE)) ∧ (Exa Z Z.heap a_NODE "com/example/lyrebird/lyrebird/store/Prefix") ∧ (Fld Z Z.heap a_NODE "com/example/lyrebird/lyrebird/store/Prefix" "first" "B" (.int (110 : Int32))) ∧ (Sta Z Z.heap "com/example/lyrebird/lyrebird/store/Prefix" "COUNTER" "Lcom/example/lyrebird/lyrebird/store/Prefix;" (.ref a_COUNTER)) ∧ (Exa Z Z.heap a_COUNTER "com/example/lyrebird/lyrebird/store/Prefix") ∧ (Fld Z Z.heap a_COUNTER "com/example/lyrebird/lyrebird/store/Prefix" "first" "B" (.int (99 : Int32))) ∧ (Sta Z Z.heap "com/example/lyrebird/lyrebird/store/Prefix" "MESSAGE" "Lcom/example/lyrebird/lyrebird/store/Prefix;" (.ref a_MESSAGE)) ∧ (Exa Z Z.heap a_MESSAGE "com/example/lyrebird/lyrebird/store/Prefix") ∧ (Fld Z Z.heap a_MESSAGE "com/example/lyrebird/lyrebird/store/Prefix" "first" "B" (.int (77 : Int32))) ∧ (Sta Z Z.heap "com/example/lyrebird/lyrebird/store/Prefix" "UPLOAD" "Lcom/example/lyrebird/lyrebird/store/Prefix;" (.ref a_UPLOAD)) ∧ (Exa Z Z.heap a_UPLOAD "com/example/lyrebird/lyrebird/store/Prefix") ∧ (Fld Z Z.heap a_UPLOAD "com/example/lyrebird/lyrebird/store/Prefix" "first" "B" (.int (117 : Int32)))
theorem g_S_PROBE {Z : State} {a_PROBE a_LAST_VERSION a_VERSION a_LAST_MESSAGE a_EPHEMERAL a_MESSAGE_END a_CHUNK a_QUEUE a_SESSION a_DELETED_NODE a_CLAIM a_NODE a_COUNTER a_MESSAGE a_UPLOAD : Addr} (G : OwnG Z a_PROBE a_LAST_VERSION a_VERSION a_LAST_MESSAGE a_EPHEMERAL a_MESSAGE_END a_CHUNK a_QUEUE a_SESSION a_DELETED_NODE a_CLAIM a_NODE a_COUNTER a_MESSAGE a_UPLOAD) : Sta Z Z.heap "com/example/lyrebird/lyrebird/store/Prefix" "PROBE" "Lcom/example/lyrebird/lyrebird/store/Prefix;" (.ref a_PROBE) := G.1
theorem g_E_PROBE {Z : State} {a_PROBE a_LAST_VERSION a_VERSION a_LAST_MESSAGE a_EPHEMERAL a_MESSAGE_END a_CHUNK a_QUEUE a_SESSION a_DELETED_NODE a_CLAIM a_NODE a_COUNTER a_MESSAGE a_UPLOAD : Addr} (G : OwnG Z a_PROBE a_LAST_VERSION a_VERSION a_LAST_MESSAGE a_EPHEMERAL a_MESSAGE_END a_CHUNK a_QUEUE a_SESSION a_DELETED_NODE a_CLAIM a_NODE a_COUNTER a_MESSAGE a_UPLOAD) : Exa Z Z.heap a_PROBE "com/example/lyrebird/lyrebird/store/Prefix" := G.2.1
theorem g_F_PROBE_first {Z : State} {a_PROBE a_LAST_VERSION a_VERSION a_LAST_MESSAGE a_EPHEMERAL a_MESSAGE_END a_CHUNK a_QUEUE a_SESSION a_DELETED_NODE a_CLAIM a_NODE a_COUNTER a_MESSAGE a_UPLOAD : Addr} (G : OwnG Z a_PROBE a_LAST_VERSION a_VERSION a_LAST_MESSAGE a_EPHEMERAL a_MESSAGE_END a_CHUNK a_QUEUE a_SESSION a_DELETED_NODE a_CLAIM a_NODE a_COUNTER a_MESSAGE a_UPLOAD) : Fld Z Z.heap a_PROBE "com/example/lyrebird/lyrebird/store/Prefix" "first" "B" (.int (0 : Int32)) := G.2.2.1
theorem g_S_LAST_VERSION {Z : State} {a_PROBE a_LAST_VERSION a_VERSION a_LAST_MESSAGE a_EPHEMERAL a_MESSAGE_END a_CHUNK a_QUEUE a_SESSION a_DELETED_NODE a_CLAIM a_NODE a_COUNTER a_MESSAGE a_UPLOAD : Addr} (G : OwnG Z a_PROBE a_LAST_VERSION a_VERSION a_LAST_MESSAGE a_EPHEMERAL a_MESSAGE_END a_CHUNK a_QUEUE a_SESSION a_DELETED_NODE a_CLAIM a_NODE a_COUNTER a_MESSAGE a_UPLOAD) : Sta Z Z.heap "com/example/lyrebird/lyrebird/store/Prefix" "LAST_VERSION" "Lcom/example/lyrebird/lyrebird/store/Prefix;" (.ref a_LAST_VERSION) := G.2.2.2.1
theorem g_E_LAST_VERSION {Z : State} {a_PROBE a_LAST_VERSION a_VERSION a_LAST_MESSAGE a_EPHEMERAL a_MESSAGE_END a_CHUNK a_QUEUE a_SESSION a_DELETED_NODE a_CLAIM a_NODE a_COUNTER a_MESSAGE a_UPLOAD : Addr} (G : OwnG Z a_PROBE a_LAST_VERSION a_VERSION a_LAST_MESSAGE a_EPHEMERAL a_MESSAGE_END a_CHUNK a_QUEUE a_SESSION a_DELETED_NODE a_CLAIM a_NODE a_COUNTER a_MESSAGE a_UPLOAD) : Exa Z Z.heap a_LAST_VERSION "com/example/lyrebird/lyrebird/store/Prefix" := G.2.2.2.2.1
theorem g_F_LAST_VERSION_first {Z : State} {a_PROBE a_LAST_VERSION a_VERSION a_LAST_MESSAGE a_EPHEMERAL a_MESSAGE_END a_CHUNK a_QUEUE a_SESSION a_DELETED_NODE a_CLAIM a_NODE a_COUNTER a_MESSAGE a_UPLOAD : Addr} (G : OwnG Z a_PROBE a_LAST_VERSION a_VERSION a_LAST_MESSAGE a_EPHEMERAL a_MESSAGE_END a_CHUNK a_QUEUE a_SESSION a_DELETED_NODE a_CLAIM a_NODE a_COUNTER a_MESSAGE a_UPLOAD) : Fld Z Z.heap a_LAST_VERSION "com/example/lyrebird/lyrebird/store/Prefix" "first" "B" (.int (115 : Int32)) := G.2.2.2.2.2.1
theorem g_S_VERSION {Z : State} {a_PROBE a_LAST_VERSION a_VERSION a_LAST_MESSAGE a_EPHEMERAL a_MESSAGE_END a_CHUNK a_QUEUE a_SESSION a_DELETED_NODE a_CLAIM a_NODE a_COUNTER a_MESSAGE a_UPLOAD : Addr} (G : OwnG Z a_PROBE a_LAST_VERSION a_VERSION a_LAST_MESSAGE a_EPHEMERAL a_MESSAGE_END a_CHUNK a_QUEUE a_SESSION a_DELETED_NODE a_CLAIM a_NODE a_COUNTER a_MESSAGE a_UPLOAD) : Sta Z Z.heap "com/example/lyrebird/lyrebird/store/Prefix" "VERSION" "Lcom/example/lyrebird/lyrebird/store/Prefix;" (.ref a_VERSION) := G.2.2.2.2.2.2.1
theorem g_E_VERSION {Z : State} {a_PROBE a_LAST_VERSION a_VERSION a_LAST_MESSAGE a_EPHEMERAL a_MESSAGE_END a_CHUNK a_QUEUE a_SESSION a_DELETED_NODE a_CLAIM a_NODE a_COUNTER a_MESSAGE a_UPLOAD : Addr} (G : OwnG Z a_PROBE a_LAST_VERSION a_VERSION a_LAST_MESSAGE a_EPHEMERAL a_MESSAGE_END a_CHUNK a_QUEUE a_SESSION a_DELETED_NODE a_CLAIM a_NODE a_COUNTER a_MESSAGE a_UPLOAD) : Exa Z Z.heap a_VERSION "com/example/lyrebird/lyrebird/store/Prefix" := G.2.2.2.2.2.2.2.1
theorem g_F_VERSION_first {Z : State} {a_PROBE a_LAST_VERSION a_VERSION a_LAST_MESSAGE a_EPHEMERAL a_MESSAGE_END a_CHUNK a_QUEUE a_SESSION a_DELETED_NODE a_CLAIM a_NODE a_COUNTER a_MESSAGE a_UPLOAD : Addr} (G : OwnG Z a_PROBE a_LAST_VERSION a_VERSION a_LAST_MESSAGE a_EPHEMERAL a_MESSAGE_END a_CHUNK a_QUEUE a_SESSION a_DELETED_NODE a_CLAIM a_NODE a_COUNTER a_MESSAGE a_UPLOAD) : Fld Z Z.heap a_VERSION "com/example/lyrebird/lyrebird/store/Prefix" "first" "B" (.int (118 : Int32)) := G.2.2.2.2.2.2.2.2.1
theorem g_S_LAST_MESSAGE {Z : State} {a_PROBE a_LAST_VERSION a_VERSION a_LAST_MESSAGE a_EPHEMERAL a_MESSAGE_END a_CHUNK a_QUEUE a_SESSION a_DELETED_NODE a_CLAIM a_NODE a_COUNTER a_MESSAGE a_UPLOAD : Addr} (G : OwnG Z a_PROBE a_LAST_VERSION a_VERSION a_LAST_MESSAGE a_EPHEMERAL a_MESSAGE_END a_CHUNK a_QUEUE a_SESSION a_DELETED_NODE a_CLAIM a_NODE a_COUNTER a_MESSAGE a_UPLOAD) : Sta Z Z.heap "com/example/lyrebird/lyrebird/store/Prefix" "LAST_MESSAGE" "Lcom/example/lyrebird/lyrebird/store/Prefix;" (.ref a_LAST_MESSAGE) := G.2.2.2.2.2.2.2.2.2.1
theorem g_E_LAST_MESSAGE {Z : State} {a_PROBE a_LAST_VERSION a_VERSION a_LAST_MESSAGE a_EPHEMERAL a_MESSAGE_END a_CHUNK a_QUEUE a_SESSION a_DELETED_NODE a_CLAIM a_NODE a_COUNTER a_MESSAGE a_UPLOAD : Addr} (G : OwnG Z a_PROBE a_LAST_VERSION a_VERSION a_LAST_MESSAGE a_EPHEMERAL a_MESSAGE_END a_CHUNK a_QUEUE a_SESSION a_DELETED_NODE a_CLAIM a_NODE a_COUNTER a_MESSAGE a_UPLOAD) : Exa Z Z.heap a_LAST_MESSAGE "com/example/lyrebird/lyrebird/store/Prefix" := G.2.2.2.2.2.2.2.2.2.2.1
theorem g_F_LAST_MESSAGE_first {Z : State} {a_PROBE a_LAST_VERSION a_VERSION a_LAST_MESSAGE a_EPHEMERAL a_MESSAGE_END a_CHUNK a_QUEUE a_SESSION a_DELETED_NODE a_CLAIM a_NODE a_COUNTER a_MESSAGE a_UPLOAD : Addr} (G : OwnG Z a_PROBE a_LAST_VERSION a_VERSION a_LAST_MESSAGE a_EPHEMERAL a_MESSAGE_END a_CHUNK a_QUEUE a_SESSION a_DELETED_NODE a_CLAIM a_NODE a_COUNTER a_MESSAGE a_UPLOAD) : Fld Z Z.heap a_LAST_MESSAGE "com/example/lyrebird/lyrebird/store/Prefix" "first" "B" (.int (78 : Int32)) := G.2.2.2.2.2.2.2.2.2.2.2.1
theorem g_S_EPHEMERAL {Z : State} {a_PROBE a_LAST_VERSION a_VERSION a_LAST_MESSAGE a_EPHEMERAL a_MESSAGE_END a_CHUNK a_QUEUE a_SESSION a_DELETED_NODE a_CLAIM a_NODE a_COUNTER a_MESSAGE a_UPLOAD : Addr} (G : OwnG Z a_PROBE a_LAST_VERSION a_VERSION a_LAST_MESSAGE a_EPHEMERAL a_MESSAGE_END a_CHUNK a_QUEUE a_SESSION a_DELETED_NODE a_CLAIM a_NODE a_COUNTER a_MESSAGE a_UPLOAD) : Sta Z Z.heap "com/example/lyrebird/lyrebird/store/Prefix" "EPHEMERAL" "Lcom/example/lyrebird/lyrebird/store/Prefix;" (.ref a_EPHEMERAL) := G.2.2.2.2.2.2.2.2.2.2.2.2.1
theorem g_E_EPHEMERAL {Z : State} {a_PROBE a_LAST_VERSION a_VERSION a_LAST_MESSAGE a_EPHEMERAL a_MESSAGE_END a_CHUNK a_QUEUE a_SESSION a_DELETED_NODE a_CLAIM a_NODE a_COUNTER a_MESSAGE a_UPLOAD : Addr} (G : OwnG Z a_PROBE a_LAST_VERSION a_VERSION a_LAST_MESSAGE a_EPHEMERAL a_MESSAGE_END a_CHUNK a_QUEUE a_SESSION a_DELETED_NODE a_CLAIM a_NODE a_COUNTER a_MESSAGE a_UPLOAD) : Exa Z Z.heap a_EPHEMERAL "com/example/lyrebird/lyrebird/store/Prefix" := G.2.2.2.2.2.2.2.2.2.2.2.2.2.1
theorem g_F_EPHEMERAL_first {Z : State} {a_PROBE a_LAST_VERSION a_VERSION a_LAST_MESSAGE a_EPHEMERAL a_MESSAGE_END a_CHUNK a_QUEUE a_SESSION a_DELETED_NODE a_CLAIM a_NODE a_COUNTER a_MESSAGE a_UPLOAD : Addr} (G : OwnG Z a_PROBE a_LAST_VERSION a_VERSION a_LAST_MESSAGE a_EPHEMERAL a_MESSAGE_END a_CHUNK a_QUEUE a_SESSION a_DELETED_NODE a_CLAIM a_NODE a_COUNTER a_MESSAGE a_UPLOAD) : Fld Z Z.heap a_EPHEMERAL "com/example/lyrebird/lyrebird/store/Prefix" "first" "B" (.int (101 : Int32)) := G.2.2.2.2.2.2.2.2.2.2.2.2.2.2.1
theorem g_S_MESSAGE_END {Z : State} {a_PROBE a_LAST_VERSION a_VERSION a_LAST_MESSAGE a_EPHEMERAL a_MESSAGE_END a_CHUNK a_QUEUE a_SESSION a_DELETED_NODE a_CLAIM a_NODE a_COUNTER a_MESSAGE a_UPLOAD : Addr} (G : OwnG Z a_PROBE a_LAST_VERSION a_VERSION a_LAST_MESSAGE a_EPHEMERAL a_MESSAGE_END a_CHUNK a_QUEUE a_SESSION a_DELETED_NODE a_CLAIM a_NODE a_COUNTER a_MESSAGE a_UPLOAD) : Sta Z Z.heap "com/example/lyrebird/lyrebird/store/Prefix" "MESSAGE_END" "Lcom/example/lyrebird/lyrebird/store/Prefix;" (.ref a_MESSAGE_END) := G.2.2.2.2.2.2.2.2.2.2.2.2.2.2.2.1
theorem g_E_MESSAGE_END {Z : State} {a_PROBE a_LAST_VERSION a_VERSION a_LAST_MESSAGE a_EPHEMERAL a_MESSAGE_END a_CHUNK a_QUEUE a_SESSION a_DELETED_NODE a_CLAIM a_NODE a_COUNTER a_MESSAGE a_UPLOAD : Addr} (G : OwnG Z a_PROBE a_LAST_VERSION a_VERSION a_LAST_MESSAGE a_EPHEMERAL a_MESSAGE_END a_CHUNK a_QUEUE a_SESSION a_DELETED_NODE a_CLAIM a_NODE a_COUNTER a_MESSAGE a_UPLOAD) : Exa Z Z.heap a_MESSAGE_END "com/example/lyrebird/lyrebird/store/Prefix" := G.2.2.2.2.2.2.2.2.2.2.2.2.2.2.2.2.1
theorem g_F_MESSAGE_END_first {Z : State} {a_PROBE a_LAST_VERSION a_VERSION a_LAST_MESSAGE a_EPHEMERAL a_MESSAGE_END a_CHUNK a_QUEUE a_SESSION a_DELETED_NODE a_CLAIM a_NODE a_COUNTER a_MESSAGE a_UPLOAD : Addr} (G : OwnG Z a_PROBE a_LAST_VERSION a_VERSION a_LAST_MESSAGE a_EPHEMERAL a_MESSAGE_END a_CHUNK a_QUEUE a_SESSION a_DELETED_NODE a_CLAIM a_NODE a_COUNTER a_MESSAGE a_UPLOAD) : Fld Z Z.heap a_MESSAGE_END "com/example/lyrebird/lyrebird/store/Prefix" "first" "B" (.int (69 : Int32)) := G.2.2.2.2.2.2.2.2.2.2.2.2.2.2.2.2.2.1
theorem g_S_CHUNK {Z : State} {a_PROBE a_LAST_VERSION a_VERSION a_LAST_MESSAGE a_EPHEMERAL a_MESSAGE_END a_CHUNK a_QUEUE a_SESSION a_DELETED_NODE a_CLAIM a_NODE a_COUNTER a_MESSAGE a_UPLOAD : Addr} (G : OwnG Z a_PROBE a_LAST_VERSION a_VERSION a_LAST_MESSAGE a_EPHEMERAL a_MESSAGE_END a_CHUNK a_QUEUE a_SESSION a_DELETED_NODE a_CLAIM a_NODE a_COUNTER a_MESSAGE a_UPLOAD) : Sta Z Z.heap "com/example/lyrebird/lyrebird/store/Prefix" "CHUNK" "Lcom/example/lyrebird/lyrebird/store/Prefix;" (.ref a_CHUNK) := G.2.2.2.2.2.2.2.2.2.2.2.2.2.2.2.2.2.2.1
theorem g_E_CHUNK {Z : State} {a_PROBE a_LAST_VERSION a_VERSION a_LAST_MESSAGE a_EPHEMERAL a_MESSAGE_END a_CHUNK a_QUEUE a_SESSION a_DELETED_NODE a_CLAIM a_NODE a_COUNTER a_MESSAGE a_UPLOAD : Addr} (G : OwnG Z a_PROBE a_LAST_VERSION a_VERSION a_LAST_MESSAGE a_EPHEMERAL a_MESSAGE_END a_CHUNK a_QUEUE a_SESSION a_DELETED_NODE a_CLAIM a_NODE a_COUNTER a_MESSAGE a_UPLOAD) : Exa Z Z.heap a_CHUNK "com/example/lyrebird/lyrebird/store/Prefix" := G.2.2.2.2.2.2.2.2.2.2.2.2.2.2.2.2.2.2.2.1
theorem g_F_CHUNK_first {Z : State} {a_PROBE a_LAST_VERSION a_VERSION a_LAST_MESSAGE a_EPHEMERAL a_MESSAGE_END a_CHUNK a_QUEUE a_SESSION a_DELETED_NODE a_CLAIM a_NODE a_COUNTER a_MESSAGE a_UPLOAD : Addr} (G : OwnG Z a_PROBE a_LAST_VERSION a_VERSION a_LAST_MESSAGE a_EPHEMERAL a_MESSAGE_END a_CHUNK a_QUEUE a_SESSION a_DELETED_NODE a_CLAIM a_NODE a_COUNTER a_MESSAGE a_UPLOAD) : Fld Z Z.heap a_CHUNK "com/example/lyrebird/lyrebird/store/Prefix" "first" "B" (.int (107 : Int32)) := G.2.2.2.2.2.2.2.2.2.2.2.2.2.2.2.2.2.2.2.2.1
theorem g_S_QUEUE {Z : State} {a_PROBE a_LAST_VERSION a_VERSION a_LAST_MESSAGE a_EPHEMERAL a_MESSAGE_END a_CHUNK a_QUEUE a_SESSION a_DELETED_NODE a_CLAIM a_NODE a_COUNTER a_MESSAGE a_UPLOAD : Addr} (G : OwnG Z a_PROBE a_LAST_VERSION a_VERSION a_LAST_MESSAGE a_EPHEMERAL a_MESSAGE_END a_CHUNK a_QUEUE a_SESSION a_DELETED_NODE a_CLAIM a_NODE a_COUNTER a_MESSAGE a_UPLOAD) : Sta Z Z.heap "com/example/lyrebird/lyrebird/store/Prefix" "QUEUE" "Lcom/example/lyrebird/lyrebird/store/Prefix;" (.ref a_QUEUE) := G.2.2.2.2.2.2.2.2.2.2.2.2.2.2.2.2.2.2.2.2.2.1
theorem g_E_QUEUE {Z : State} {a_PROBE a_LAST_VERSION a_VERSION a_LAST_MESSAGE a_EPHEMERAL a_MESSAGE_END a_CHUNK a_QUEUE a_SESSION a_DELETED_NODE a_CLAIM a_NODE a_COUNTER a_MESSAGE a_UPLOAD : Addr} (G : OwnG Z a_PROBE a_LAST_VERSION a_VERSION a_LAST_MESSAGE a_EPHEMERAL a_MESSAGE_END a_CHUNK a_QUEUE a_SESSION a_DELETED_NODE a_CLAIM a_NODE a_COUNTER a_MESSAGE a_UPLOAD) : Exa Z Z.heap a_QUEUE "com/example/lyrebird/lyrebird/store/Prefix" := G.2.2.2.2.2.2.2.2.2.2.2.2.2.2.2.2.2.2.2.2.2.2.1
theorem g_F_QUEUE_first {Z : State} {a_PROBE a_LAST_VERSION a_VERSION a_LAST_MESSAGE a_EPHEMERAL a_MESSAGE_END a_CHUNK a_QUEUE a_SESSION a_DELETED_NODE a_CLAIM a_NODE a_COUNTER a_MESSAGE a_UPLOAD : Addr} (G : OwnG Z a_PROBE a_LAST_VERSION a_VERSION a_LAST_MESSAGE a_EPHEMERAL a_MESSAGE_END a_CHUNK a_QUEUE a_SESSION a_DELETED_NODE a_CLAIM a_NODE a_COUNTER a_MESSAGE a_UPLOAD) : Fld Z Z.heap a_QUEUE "com/example/lyrebird/lyrebird/store/Prefix" "first" "B" (.int (81 : Int32)) := G.2.2.2.2.2.2.2.2.2.2.2.2.2.2.2.2.2.2.2.2.2.2.2.1
theorem g_S_SESSION {Z : State} {a_PROBE a_LAST_VERSION a_VERSION a_LAST_MESSAGE a_EPHEMERAL a_MESSAGE_END a_CHUNK a_QUEUE a_SESSION a_DELETED_NODE a_CLAIM a_NODE a_COUNTER a_MESSAGE a_UPLOAD : Addr} (G : OwnG Z a_PROBE a_LAST_VERSION a_VERSION a_LAST_MESSAGE a_EPHEMERAL a_MESSAGE_END a_CHUNK a_QUEUE a_SESSION a_DELETED_NODE a_CLAIM a_NODE a_COUNTER a_MESSAGE a_UPLOAD) : Sta Z Z.heap "com/example/lyrebird/lyrebird/store/Prefix" "SESSION" "Lcom/example/lyrebird/lyrebird/store/Prefix;" (.ref a_SESSION) := G.2.2.2.2.2.2.2.2.2.2.2.2.2.2.2.2.2.2.2.2.2.2.2.2.1
theorem g_E_SESSION {Z : State} {a_PROBE a_LAST_VERSION a_VERSION a_LAST_MESSAGE a_EPHEMERAL a_MESSAGE_END a_CHUNK a_QUEUE a_SESSION a_DELETED_NODE a_CLAIM a_NODE a_COUNTER a_MESSAGE a_UPLOAD : Addr} (G : OwnG Z a_PROBE a_LAST_VERSION a_VERSION a_LAST_MESSAGE a_EPHEMERAL a_MESSAGE_END a_CHUNK a_QUEUE a_SESSION a_DELETED_NODE a_CLAIM a_NODE a_COUNTER a_MESSAGE a_UPLOAD) : Exa Z Z.heap a_SESSION "com/example/lyrebird/lyrebird/store/Prefix" := G.2.2.2.2.2.2.2.2.2.2.2.2.2.2.2.2.2.2.2.2.2.2.2.2.2.1
theorem g_F_SESSION_first {Z : State} {a_PROBE a_LAST_VERSION a_VERSION a_LAST_MESSAGE a_EPHEMERAL a_MESSAGE_END a_CHUNK a_QUEUE a_SESSION a_DELETED_NODE a_CLAIM a_NODE a_COUNTER a_MESSAGE a_UPLOAD : Addr} (G : OwnG Z a_PROBE a_LAST_VERSION a_VERSION a_LAST_MESSAGE a_EPHEMERAL a_MESSAGE_END a_CHUNK a_QUEUE a_SESSION a_DELETED_NODE a_CLAIM a_NODE a_COUNTER a_MESSAGE a_UPLOAD) : Fld Z Z.heap a_SESSION "com/example/lyrebird/lyrebird/store/Prefix" "first" "B" (.int (83 : Int32)) := G.2.2.2.2.2.2.2.2.2.2.2.2.2.2.2.2.2.2.2.2.2.2.2.2.2.2.1
theorem g_S_DELETED_NODE {Z : State} {a_PROBE a_LAST_VERSION a_VERSION a_LAST_MESSAGE a_EPHEMERAL a_MESSAGE_END a_CHUNK a_QUEUE a_SESSION a_DELETED_NODE a_CLAIM a_NODE a_COUNTER a_MESSAGE a_UPLOAD : Addr} (G : OwnG Z a_PROBE a_LAST_VERSION a_VERSION a_LAST_MESSAGE a_EPHEMERAL a_MESSAGE_END a_CHUNK a_QUEUE a_SESSION a_DELETED_NODE a_CLAIM a_NODE a_COUNTER a_MESSAGE a_UPLOAD) : Sta Z Z.heap "com/example/lyrebird/lyrebird/store/Prefix" "DELETED_NODE" "Lcom/example/lyrebird/lyrebird/store/Prefix;" (.ref a_DELETED_NODE) := G.2.2.2.2.2.2.2.2.2.2.2.2.2.2.2.2.2.2.2.2.2.2.2.2.2.2.2.1
theorem g_E_DELETED_NODE {Z : State} {a_PROBE a_LAST_VERSION a_VERSION a_LAST_MESSAGE a_EPHEMERAL a_MESSAGE_END a_CHUNK a_QUEUE a_SESSION a_DELETED_NODE a_CLAIM a_NODE a_COUNTER a_MESSAGE a_UPLOAD : Addr} (G : OwnG Z a_PROBE a_LAST_VERSION a_VERSION a_LAST_MESSAGE a_EPHEMERAL a_MESSAGE_END a_CHUNK a_QUEUE a_SESSION a_DELETED_NODE a_CLAIM a_NODE a_COUNTER a_MESSAGE a_UPLOAD) : Exa Z Z.heap a_DELETED_NODE "com/example/lyrebird/lyrebird/store/Prefix" := G.2.2.2.2.2.2.2.2.2.2.2.2.2.2.2.2.2.2.2.2.2.2.2.2.2.2.2.2.1
theorem g_F_DELETED_NODE_first {Z : State} {a_PROBE a_LAST_VERSION a_VERSION a_LAST_MESSAGE a_EPHEMERAL a_MESSAGE_END a_CHUNK a_QUEUE a_SESSION a_DELETED_NODE a_CLAIM a_NODE a_COUNTER a_MESSAGE a_UPLOAD : Addr} (G : OwnG Z a_PROBE a_LAST_VERSION a_VERSION a_LAST_MESSAGE a_EPHEMERAL a_MESSAGE_END a_CHUNK a_QUEUE a_SESSION a_DELETED_NODE a_CLAIM a_NODE a_COUNTER a_MESSAGE a_UPLOAD) : Fld Z Z.heap a_DELETED_NODE "com/example/lyrebird/lyrebird/store/Prefix" "first" "B" (.int (100 : Int32)) := G.2.2.2.2.2.2.2.2.2.2.2.2.2.2.2.2.2.2.2.2.2.2.2.2.2.2.2.2.2.1
theorem g_S_CLAIM {Z : State} {a_PROBE a_LAST_VERSION a_VERSION a_LAST_MESSAGE a_EPHEMERAL a_MESSAGE_END a_CHUNK a_QUEUE a_SESSION a_DELETED_NODE a_CLAIM a_NODE a_COUNTER a_MESSAGE a_UPLOAD : Addr} (G : OwnG Z a_PROBE a_LAST_VERSION a_VERSION a_LAST_MESSAGE a_EPHEMERAL a_MESSAGE_END a_CHUNK a_QUEUE a_SESSION a_DELETED_NODE a_CLAIM a_NODE a_COUNTER a_MESSAGE a_UPLOAD) : Sta Z Z.heap "com/example/lyrebird/lyrebird/store/Prefix" "CLAIM" "Lcom/example/lyrebird/lyrebird/store/Prefix;" (.ref a_CLAIM) := G.2.2.2.2.2.2.2.2.2.2.2.2.2.2.2.2.2.2.2.2.2.2.2.2.2.2.2.2.2.2.1
theorem g_E_CLAIM {Z : State} {a_PROBE a_LAST_VERSION a_VERSION a_LAST_MESSAGE a_EPHEMERAL a_MESSAGE_END a_CHUNK a_QUEUE a_SESSION a_DELETED_NODE a_CLAIM a_NODE a_COUNTER a_MESSAGE a_UPLOAD : Addr} (G : OwnG Z a_PROBE a_LAST_VERSION a_VERSION a_LAST_MESSAGE a_EPHEMERAL a_MESSAGE_END a_CHUNK a_QUEUE a_SESSION a_DELETED_NODE a_CLAIM a_NODE a_COUNTER a_MESSAGE a_UPLOAD) : Exa Z Z.heap a_CLAIM "com/example/lyrebird/lyrebird/store/Prefix" := G.2.2.2.2.2.2.2.2.2.2.2.2.2.2.2.2.2.2.2.2.2.2.2.2.2.2.2.2.2.2.2.1
theorem g_F_CLAIM_first {Z : State} {a_PROBE a_LAST_VERSION a_VERSION a_LAST_MESSAGE a_EPHEMERAL a_MESSAGE_END a_CHUNK a_QUEUE a_SESSION a_DELETED_NODE a_CLAIM a_NODE a_COUNTER a_MESSAGE a_UPLOAD : Addr} (G : OwnG Z a_PROBE a_LAST_VERSION a_VERSION a_LAST_MESSAGE a_EPHEMERAL a_MESSAGE_END a_CHUNK a_QUEUE a_SESSION a_DELETED_NODE a_CLAIM a_NODE a_COUNTER a_MESSAGE a_UPLOAD) : Fld Z Z.heap a_CLAIM "com/example/lyrebird/lyrebird/store/Prefix" "first" "B" (.int (67 : Int32)) := G.2.2.2.2.2.2.2.2.2.2.2.2.2.2.2.2.2.2.2.2.2.2.2.2.2.2.2.2.2.2.2.2.1
theorem g_S_NODE {Z : State} {a_PROBE a_LAST_VERSION a_VERSION a_LAST_MESSAGE a_EPHEMERAL a_MESSAGE_END a_CHUNK a_QUEUE a_SESSION a_DELETED_NODE a_CLAIM a_NODE a_COUNTER a_MESSAGE a_UPLOAD : Addr} (G : OwnG Z a_PROBE a_LAST_VERSION a_VERSION a_LAST_MESSAGE a_EPHEMERAL a_MESSAGE_END a_CHUNK a_QUEUE a_SESSION a_DELETED_NODE a_CLAIM a_NODE a_COUNTER a_MESSAGE a_UPLOAD) : Sta Z Z.heap "com/example/lyrebird/lyrebird/store/Prefix" "NODE" "Lcom/example/lyrebird/lyrebird/store/Prefix;" (.ref a_NODE) := G.2.2.2.2.2.2.2.2.2.2.2.2.2.2.2.2.2.2.2.2.2.2.2.2.2.2.2.2.2.2.2.2.2.1
theorem g_E_NODE {Z : State} {a_PROBE a_LAST_VERSION a_VERSION a_LAST_MESSAGE a_EPHEMERAL a_MESSAGE_END a_CHUNK a_QUEUE a_SESSION a_DELETED_NODE a_CLAIM a_NODE a_COUNTER a_MESSAGE a_UPLOAD : Addr} (G : OwnG Z a_PROBE a_LAST_VERSION a_VERSION a_LAST_MESSAGE a_EPHEMERAL a_MESSAGE_END a_CHUNK a_QUEUE a_SESSION a_DELETED_NODE a_CLAIM a_NODE a_COUNTER a_MESSAGE a_UPLOAD) : Exa Z Z.heap a_NODE "com/example/lyrebird/lyrebird/store/Prefix" := G.2.2.2.2.2.2.2.2.2.2.2.2.2.2.2.2.2.2.2.2.2.2.2.2.2.2.2.2.2.2.2.2.2.2.1
theorem g_F_NODE_first {Z : State} {a_PROBE a_LAST_VERSION a_VERSION a_LAST_MESSAGE a_EPHEMERAL a_MESSAGE_END a_CHUNK a_QUEUE a_SESSION a_DELETED_NODE a_CLAIM a_NODE a_COUNTER a_MESSAGE a_UPLOAD : Addr} (G : OwnG Z a_PROBE a_LAST_VERSION a_VERSION a_LAST_MESSAGE a_EPHEMERAL a_MESSAGE_END a_CHUNK a_QUEUE a_SESSION a_DELETED_NODE a_CLAIM a_NODE a_COUNTER a_MESSAGE a_UPLOAD) : Fld Z Z.heap a_NODE "com/example/lyrebird/lyrebird/store/Prefix" "first" "B" (.int (110 : Int32)) := G.2.2.2.2.2.2.2.2.2.2.2.2.2.2.2.2.2.2.2.2.2.2.2.2.2.2.2.2.2.2.2.2.2.2.2.1
theorem g_S_COUNTER {Z : State} {a_PROBE a_LAST_VERSION a_VERSION a_LAST_MESSAGE a_EPHEMERAL a_MESSAGE_END a_CHUNK a_QUEUE a_SESSION a_DELETED_NODE a_CLAIM a_NODE a_COUNTER a_MESSAGE a_UPLOAD : Addr} (G : OwnG Z a_PROBE a_LAST_VERSION a_VERSION a_LAST_MESSAGE a_EPHEMERAL a_MESSAGE_END a_CHUNK a_QUEUE a_SESSION a_DELETED_NODE a_CLAIM a_NODE a_COUNTER a_MESSAGE a_UPLOAD) : Sta Z Z.heap "com/example/lyrebird/lyrebird/store/Prefix" "COUNTER" "Lcom/example/lyrebird/lyrebird/store/Prefix;" (.ref a_COUNTER) := G.2.2.2.2.2.2.2.2.2.2.2.2.2.2.2.2.2.2.2.2.2.2.2.2.2.2.2.2.2.2.2.2.2.2.2.2.1
theorem g_E_COUNTER {Z : State} {a_PROBE a_LAST_VERSION a_VERSION a_LAST_MESSAGE a_EPHEMERAL a_MESSAGE_END a_CHUNK a_QUEUE a_SESSION a_DELETED_NODE a_CLAIM a_NODE a_COUNTER a_MESSAGE a_UPLOAD : Addr} (G : OwnG Z a_PROBE a_LAST_VERSION a_VERSION a_LAST_MESSAGE a_EPHEMERAL a_MESSAGE_END a_CHUNK a_QUEUE a_SESSION a_DELETED_NODE a_CLAIM a_NODE a_COUNTER a_MESSAGE a_UPLOAD) : Exa Z Z.heap a_COUNTER "com/example/lyrebird/lyrebird/store/Prefix" := G.2.2.2.2.2.2.2.2.2.2.2.2.2.2.2.2.2.2.2.2.2.2.2.2.2.2.2.2.2.2.2.2.2.2.2.2.2.1
theorem g_F_COUNTER_first {Z : State} {a_PROBE a_LAST_VERSION a_VERSION a_LAST_MESSAGE a_EPHEMERAL a_MESSAGE_END a_CHUNK a_QUEUE a_SESSION a_DELETED_NODE a_CLAIM a_NODE a_COUNTER a_MESSAGE a_UPLOAD : Addr} (G : OwnG Z a_PROBE a_LAST_VERSION a_VERSION a_LAST_MESSAGE a_EPHEMERAL a_MESSAGE_END a_CHUNK a_QUEUE a_SESSION a_DELETED_NODE a_CLAIM a_NODE a_COUNTER a_MESSAGE a_UPLOAD) : Fld Z Z.heap a_COUNTER "com/example/lyrebird/lyrebird/store/Prefix" "first" "B" (.int (99 : Int32)) := G.2.2.2.2.2.2.2.2.2.2.2.2.2.2.2.2.2.2.2.2.2.2.2.2.2.2.2.2.2.2.2.2.2.2.2.2.2.2.1
theorem g_S_MESSAGE {Z : State} {a_PROBE a_LAST_VERSION a_VERSION a_LAST_MESSAGE a_EPHEMERAL a_MESSAGE_END a_CHUNK a_QUEUE a_SESSION a_DELETED_NODE a_CLAIM a_NODE a_COUNTER a_MESSAGE a_UPLOAD : Addr} (G : OwnG Z a_PROBE a_LAST_VERSION a_VERSION a_LAST_MESSAGE a_EPHEMERAL a_MESSAGE_END a_CHUNK a_QUEUE a_SESSION a_DELETED_NODE a_CLAIM a_NODE a_COUNTER a_MESSAGE a_UPLOAD) : Sta Z Z.heap "com/example/lyrebird/lyrebird/store/Prefix" "MESSAGE" "Lcom/example/lyrebird/lyrebird/store/Prefix;" (.ref a_MESSAGE) := G.2.2.2.2.2.2.2.2.2.2.2.2.2.2.2.2.2.2.2.2.2.2.2.2.2.2.2.2.2.2.2.2.2.2.2.2.2.2.2.1
theorem g_E_MESSAGE {Z : State} {a_PROBE a_LAST_VERSION a_VERSION a_LAST_MESSAGE a_EPHEMERAL a_MESSAGE_END a_CHUNK a_QUEUE a_SESSION a_DELETED_NODE a_CLAIM a_NODE a_COUNTER a_MESSAGE a_UPLOAD : Addr} (G : OwnG Z a_PROBE a_LAST_VERSION a_VERSION a_LAST_MESSAGE a_EPHEMERAL a_MESSAGE_END a_CHUNK a_QUEUE a_SESSION a_DELETED_NODE a_CLAIM a_NODE a_COUNTER a_MESSAGE a_UPLOAD) : Exa Z Z.heap a_MESSAGE "com/example/lyrebird/lyrebird/store/Prefix" := G.2.2.2.2.2.2.2.2.2.2.2.2.2.2.2.2.2.2.2.2.2.2.2.2.2.2.2.2.2.2.2.2.2.2.2.2.2.2.2.2.1
theorem g_F_MESSAGE_first {Z : State} {a_PROBE a_LAST_VERSION a_VERSION a_LAST_MESSAGE a_EPHEMERAL a_MESSAGE_END a_CHUNK a_QUEUE a_SESSION a_DELETED_NODE a_CLAIM a_NODE a_COUNTER a_MESSAGE a_UPLOAD : Addr} (G : OwnG Z a_PROBE a_LAST_VERSION a_VERSION a_LAST_MESSAGE a_EPHEMERAL a_MESSAGE_END a_CHUNK a_QUEUE a_SESSION a_DELETED_NODE a_CLAIM a_NODE a_COUNTER a_MESSAGE a_UPLOAD) : Fld Z Z.heap a_MESSAGE "com/example/lyrebird/lyrebird/store/Prefix" "first" "B" (.int (77 : Int32)) := G.2.2.2.2.2.2.2.2.2.2.2.2.2.2.2.2.2.2.2.2.2.2.2.2.2.2.2.2.2.2.2.2.2.2.2.2.2.2.2.2.2.1
theorem g_S_UPLOAD {Z : State} {a_PROBE a_LAST_VERSION a_VERSION a_LAST_MESSAGE a_EPHEMERAL a_MESSAGE_END a_CHUNK a_QUEUE a_SESSION a_DELETED_NODE a_CLAIM a_NODE a_COUNTER a_MESSAGE a_UPLOAD : Addr} (G : OwnG Z a_PROBE a_LAST_VERSION a_VERSION a_LAST_MESSAGE a_EPHEMERAL a_MESSAGE_END a_CHUNK a_QUEUE a_SESSION a_DELETED_NODE a_CLAIM a_NODE a_COUNTER a_MESSAGE a_UPLOAD) : Sta Z Z.heap "com/example/lyrebird/lyrebird/store/Prefix" "UPLOAD" "Lcom/example/lyrebird/lyrebird/store/Prefix;" (.ref a_UPLOAD) := G.2.2.2.2.2.2.2.2.2.2.2.2.2.2.2.2.2.2.2.2.2.2.2.2.2.2.2.2.2.2.2.2.2.2.2.2.2.2.2.2.2.2.1
theorem g_E_UPLOAD {Z : State} {a_PROBE a_LAST_VERSION a_VERSION a_LAST_MESSAGE a_EPHEMERAL a_MESSAGE_END a_CHUNK a_QUEUE a_SESSION a_DELETED_NODE a_CLAIM a_NODE a_COUNTER a_MESSAGE a_UPLOAD : Addr} (G : OwnG Z a_PROBE a_LAST_VERSION a_VERSION a_LAST_MESSAGE a_EPHEMERAL a_MESSAGE_END a_CHUNK a_QUEUE a_SESSION a_DELETED_NODE a_CLAIM a_NODE a_COUNTER a_MESSAGE a_UPLOAD) : Exa Z Z.heap a_UPLOAD "com/example/lyrebird/lyrebird/store/Prefix" := G.2.2.2.2.2.2.2.2.2.2.2.2.2.2.2.2.2.2.2.2.2.2.2.2.2.2.2.2.2.2.2.2.2.2.2.2.2.2.2.2.2.2.2.1
theorem g_F_UPLOAD_first {Z : State} {a_PROBE a_LAST_VERSION a_VERSION a_LAST_MESSAGE a_EPHEMERAL a_MESSAGE_END a_CHUNK a_QUEUE a_SESSION a_DELETED_NODE a_CLAIM a_NODE a_COUNTER a_MESSAGE a_UPLOAD : Addr} (G : OwnG Z a_PROBE a_LAST_VERSION a_VERSION a_LAST_MESSAGE a_EPHEMERAL a_MESSAGE_END a_CHUNK a_QUEUE a_SESSION a_DELETED_NODE a_CLAIM a_NODE a_COUNTER a_MESSAGE a_UPLOAD) : Fld Z Z.heap a_UPLOAD "com/example/lyrebird/lyrebird/store/Prefix" "first" "B" (.int (117 : Int32)) := G.2.2.2.2.2.2.2.2.2.2.2.2.2.2.2.2.2.2.2.2.2.2.2.2.2.2.2.2.2.2.2.2.2.2.2.2.2.2.2.2.2.2.2.2

def own_first (k : Int32) : Int32 := if k = 0 then 0 else if k = 1 then 110 else if k = 2 then 100 else if k = 3 then 118 else if k = 4 then 115 else if k = 5 then 101 else if k = 6 then 99 else if k = 7 then 83 else if k = 8 then 117 else if k = 9 then 107 else if k = 10 then 81 else if k = 11 then 77 else if k = 12 then 69 else if k = 13 then 78 else 67
theorem own_ib (c : Prop) [Decidable c] {a b : Int32} (ha : a.toInt8.toInt32 = a) (hb : b.toInt8.toInt32 = b) : (if c then a else b).toInt8.toInt32 = if c then a else b := by split <;> assumption
theorem own_first_b (k : Int32) : (own_first k).toInt8.toInt32 = own_first k := by
  unfold own_first
  exact (own_ib _ rfl (own_ib _ rfl (own_ib _ rfl (own_ib _ rfl (own_ib _ rfl (own_ib _ rfl (own_ib _ rfl (own_ib _ rfl (own_ib _ rfl (own_ib _ rfl (own_ib _ rfl (own_ib _ rfl (own_ib _ rfl (own_ib _ rfl rfl))))))))))))))
theorem own_narb (x : Int32) : nar .byte x.toInt8.toInt32 = x.toInt8.toInt32 := Value.int.inj (Jvm.Free.XT.narrow_b x)
theorem own_sz (x : Int32) : (x &&& (7 : Int32)) % (5 : Int32) = 0 ∨ (x &&& (7 : Int32)) % (5 : Int32) = 1 ∨ (x &&& (7 : Int32)) % (5 : Int32) = 2 ∨ (x &&& (7 : Int32)) % (5 : Int32) = 3 ∨ (x &&& (7 : Int32)) % (5 : Int32) = 4 := by
  have k1 := c_mask x (7 : Int32) 3 (by decide) (by decide)
  have k2 := (c_irem (x &&& (7 : Int32)) (5 : Int32) 5 rfl).1 (by omega)
  have h : ((x &&& (7 : Int32)) % (5 : Int32)).toInt = 0 ∨ ((x &&& (7 : Int32)) % (5 : Int32)).toInt = 1 ∨ ((x &&& (7 : Int32)) % (5 : Int32)).toInt = 2 ∨ ((x &&& (7 : Int32)) % (5 : Int32)).toInt = 3 ∨ ((x &&& (7 : Int32)) % (5 : Int32)).toInt = 4 := by omega
  rcases h with h | h | h | h | h
  · exact Or.inl (Int32.toInt_inj.mp h)
  · exact Or.inr (Or.inl (Int32.toInt_inj.mp h))
  · exact Or.inr (Or.inr (Or.inl (Int32.toInt_inj.mp h)))
  · exact Or.inr (Or.inr (Or.inr (Or.inl (Int32.toInt_inj.mp h))))
  · exact Or.inr (Or.inr (Or.inr (Or.inr (Int32.toInt_inj.mp h))))
theorem own_nb (k : Int32) : nar .byte (own_first k) = own_first k := by rw [← own_first_b]; exact own_narb _
theorem own_fb (k : Int32) : fits .byte (.int (own_first k)) = true := by rw [← own_first_b]; exact fits_nar_byte _
theorem tw_0 : (Jvm.Cond.constant "com/example/lyrebird/lyrebird/store/PrefixKeyPinLaw" (55 : Nat) (2147483647 : Int32)) ∈ tables_1 := List.mem_of_getElem? (i := 0) rfl
theorem tw_1 : (Jvm.Cond.methodLink "com/example/lyrebird/lyrebird/store/PrefixKeyPinLaw" (56 : Nat) ({ cls := "com/example/lyrebird/lyrebird/store/PrefixKeyPinLaw", name := "pick", desc := "(I)Lcom/example/lyrebird/lyrebird/store/Prefix;" } : Jvm.MethodName)) ∈ tables_1 := List.mem_of_getElem? (i := 1) rfl
theorem tw_2 : (Jvm.Cond.static ({ cls := "com/example/lyrebird/lyrebird/store/PrefixKeyPinLaw", name := "pick", desc := "(I)Lcom/example/lyrebird/lyrebird/store/Prefix;" } : Jvm.MethodName)) ∈ tables_1 := List.mem_of_getElem? (i := 2) rfl
theorem tw_3 : (Jvm.Cond.initialized "com/example/lyrebird/lyrebird/store/PrefixKeyPinLaw") ∈ tables_1 := List.mem_of_getElem? (i := 3) rfl
theorem tw_4 : (Jvm.Cond.code ({ cls := "com/example/lyrebird/lyrebird/store/PrefixKeyPinLaw", name := "pick", desc := "(I)Lcom/example/lyrebird/lyrebird/store/Prefix;" } : Jvm.MethodName) method_2_code (1 : Nat) (Option.some (Jvm.ClassFile.FieldType.object "com/example/lyrebird/lyrebird/store/Prefix"))) ∈ tables_1 := List.mem_of_getElem? (i := 4) rfl
theorem tw_5 : (Jvm.Cond.fieldLink "com/example/lyrebird/lyrebird/store/PrefixKeyPinLaw" (7 : Nat) "com/example/lyrebird/lyrebird/store/Prefix" "PROBE" "Lcom/example/lyrebird/lyrebird/store/Prefix;") ∈ tables_1 := List.mem_of_getElem? (i := 5) rfl
theorem tw_6 : (Jvm.Cond.initialized "com/example/lyrebird/lyrebird/store/Prefix") ∈ tables_1 := List.mem_of_getElem? (i := 6) rfl
theorem tw_7 : (Jvm.Cond.laysStatic "com/example/lyrebird/lyrebird/store/Prefix" "PROBE" "Lcom/example/lyrebird/lyrebird/store/Prefix;") ∈ tables_1 := List.mem_of_getElem? (i := 7) rfl
theorem tw_8 : (Jvm.Cond.methodLink "com/example/lyrebird/lyrebird/store/PrefixKeyPinLaw" (62 : Nat) ({ cls := "com/example/lyrebird/lyrebird/store/PrefixKeyPinLaw", name := "firstOf", desc := "(I)I" } : Jvm.MethodName)) ∈ tables_1 := List.mem_of_getElem? (i := 8) rfl
theorem tw_9 : (Jvm.Cond.static ({ cls := "com/example/lyrebird/lyrebird/store/PrefixKeyPinLaw", name := "firstOf", desc := "(I)I" } : Jvm.MethodName)) ∈ tables_1 := List.mem_of_getElem? (i := 9) rfl
theorem tw_10 : (Jvm.Cond.code ({ cls := "com/example/lyrebird/lyrebird/store/PrefixKeyPinLaw", name := "firstOf", desc := "(I)I" } : Jvm.MethodName) method_3_code (1 : Nat) (Option.some Jvm.ClassFile.FieldType.int)) ∈ tables_1 := List.mem_of_getElem? (i := 10) rfl
theorem tw_11 : (Jvm.Cond.arrayClass Jvm.ClassFile.FieldType.byte) ∈ tables_1 := List.mem_of_getElem? (i := 11) rfl
theorem tw_12 : (Jvm.Cond.methodLink "com/example/lyrebird/lyrebird/store/PrefixKeyPinLaw" (66 : Nat) ({ cls := "com/example/lyrebird/lyrebird/store/Prefix", name := "key", desc := "([B)[B" } : Jvm.MethodName)) ∈ tables_1 := List.mem_of_getElem? (i := 12) rfl
theorem tw_13 : (Jvm.Cond.declares ({ cls := "com/example/lyrebird/lyrebird/store/Prefix", name := "key", desc := "([B)[B" } : Jvm.MethodName)) ∈ tables_1 := List.mem_of_getElem? (i := 13) rfl
theorem tw_14 : (Jvm.Cond.instanceMethod ({ cls := "com/example/lyrebird/lyrebird/store/Prefix", name := "key", desc := "([B)[B" } : Jvm.MethodName)) ∈ tables_1 := List.mem_of_getElem? (i := 14) rfl
theorem tw_15 : (Jvm.Cond.selects "com/example/lyrebird/lyrebird/store/Prefix" ({ cls := "com/example/lyrebird/lyrebird/store/Prefix", name := "key", desc := "([B)[B" } : Jvm.MethodName) ({ cls := "com/example/lyrebird/lyrebird/store/Prefix", name := "key", desc := "([B)[B" } : Jvm.MethodName)) ∈ tables_1 := List.mem_of_getElem? (i := 15) rfl
theorem tw_16 : (Jvm.Cond.code ({ cls := "com/example/lyrebird/lyrebird/store/Prefix", name := "key", desc := "([B)[B" } : Jvm.MethodName) prog_10_method_7_code (3 : Nat) (Option.some (Jvm.ClassFile.FieldType.array Jvm.ClassFile.FieldType.byte))) ∈ tables_1 := List.mem_of_getElem? (i := 16) rfl
theorem tw_17 : (Jvm.Cond.fieldLink "com/example/lyrebird/lyrebird/store/Prefix" (68 : Nat) "com/example/lyrebird/lyrebird/store/Prefix" "first" "B") ∈ tables_1 := List.mem_of_getElem? (i := 17) rfl
theorem tw_19 : (Jvm.Cond.methodLink "com/example/lyrebird/lyrebird/store/Prefix" (97 : Nat) ({ cls := "java/lang/System", name := "arraycopy", desc := "(Ljava/lang/Object;ILjava/lang/Object;II)V" } : Jvm.MethodName)) ∈ tables_1 := List.mem_of_getElem? (i := 19) rfl
theorem tw_20 : (Jvm.Cond.static ({ cls := "java/lang/System", name := "arraycopy", desc := "(Ljava/lang/Object;ILjava/lang/Object;II)V" } : Jvm.MethodName)) ∈ tables_1 := List.mem_of_getElem? (i := 20) rfl
theorem tw_21 : (Jvm.Cond.initialized "java/lang/System") ∈ tables_1 := List.mem_of_getElem? (i := 21) rfl
theorem tw_22 : (Jvm.Cond.native ({ cls := "java/lang/System", name := "arraycopy", desc := "(Ljava/lang/Object;ILjava/lang/Object;II)V" } : Jvm.MethodName)) ∈ tables_1 := List.mem_of_getElem? (i := 22) rfl
theorem tw_23 : (Jvm.Cond.fieldLink "com/example/lyrebird/lyrebird/store/PrefixKeyPinLaw" (22 : Nat) "com/example/lyrebird/lyrebird/store/Prefix" "LAST_VERSION" "Lcom/example/lyrebird/lyrebird/store/Prefix;") ∈ tables_1 := List.mem_of_getElem? (i := 23) rfl
theorem tw_24 : (Jvm.Cond.laysStatic "com/example/lyrebird/lyrebird/store/Prefix" "LAST_VERSION" "Lcom/example/lyrebird/lyrebird/store/Prefix;") ∈ tables_1 := List.mem_of_getElem? (i := 24) rfl
theorem tw_25 : (Jvm.Cond.fieldLink "com/example/lyrebird/lyrebird/store/PrefixKeyPinLaw" (19 : Nat) "com/example/lyrebird/lyrebird/store/Prefix" "VERSION" "Lcom/example/lyrebird/lyrebird/store/Prefix;") ∈ tables_1 := List.mem_of_getElem? (i := 25) rfl
theorem tw_26 : (Jvm.Cond.laysStatic "com/example/lyrebird/lyrebird/store/Prefix" "VERSION" "Lcom/example/lyrebird/lyrebird/store/Prefix;") ∈ tables_1 := List.mem_of_getElem? (i := 26) rfl
theorem tw_27 : (Jvm.Cond.fieldLink "com/example/lyrebird/lyrebird/store/PrefixKeyPinLaw" (49 : Nat) "com/example/lyrebird/lyrebird/store/Prefix" "LAST_MESSAGE" "Lcom/example/lyrebird/lyrebird/store/Prefix;") ∈ tables_1 := List.mem_of_getElem? (i := 27) rfl
theorem tw_28 : (Jvm.Cond.laysStatic "com/example/lyrebird/lyrebird/store/Prefix" "LAST_MESSAGE" "Lcom/example/lyrebird/lyrebird/store/Prefix;") ∈ tables_1 := List.mem_of_getElem? (i := 28) rfl
theorem tw_29 : (Jvm.Cond.fieldLink "com/example/lyrebird/lyrebird/store/PrefixKeyPinLaw" (25 : Nat) "com/example/lyrebird/lyrebird/store/Prefix" "EPHEMERAL" "Lcom/example/lyrebird/lyrebird/store/Prefix;") ∈ tables_1 := List.mem_of_getElem? (i := 29) rfl
theorem tw_30 : (Jvm.Cond.laysStatic "com/example/lyrebird/lyrebird/store/Prefix" "EPHEMERAL" "Lcom/example/lyrebird/lyrebird/store/Prefix;") ∈ tables_1 := List.mem_of_getElem? (i := 30) rfl
theorem tw_31 : (Jvm.Cond.fieldLink "com/example/lyrebird/lyrebird/store/PrefixKeyPinLaw" (46 : Nat) "com/example/lyrebird/lyrebird/store/Prefix" "MESSAGE_END" "Lcom/example/lyrebird/lyrebird/store/Prefix;") ∈ tables_1 := List.mem_of_getElem? (i := 31) rfl
theorem tw_32 : (Jvm.Cond.laysStatic "com/example/lyrebird/lyrebird/store/Prefix" "MESSAGE_END" "Lcom/example/lyrebird/lyrebird/store/Prefix;") ∈ tables_1 := List.mem_of_getElem? (i := 32) rfl
theorem tw_33 : (Jvm.Cond.fieldLink "com/example/lyrebird/lyrebird/store/PrefixKeyPinLaw" (37 : Nat) "com/example/lyrebird/lyrebird/store/Prefix" "CHUNK" "Lcom/example/lyrebird/lyrebird/store/Prefix;") ∈ tables_1 := List.mem_of_getElem? (i := 33) rfl
theorem tw_34 : (Jvm.Cond.laysStatic "com/example/lyrebird/lyrebird/store/Prefix" "CHUNK" "Lcom/example/lyrebird/lyrebird/store/Prefix;") ∈ tables_1 := List.mem_of_getElem? (i := 34) rfl
theorem tw_35 : (Jvm.Cond.fieldLink "com/example/lyrebird/lyrebird/store/PrefixKeyPinLaw" (40 : Nat) "com/example/lyrebird/lyrebird/store/Prefix" "QUEUE" "Lcom/example/lyrebird/lyrebird/store/Prefix;") ∈ tables_1 := List.mem_of_getElem? (i := 35) rfl
theorem tw_36 : (Jvm.Cond.laysStatic "com/example/lyrebird/lyrebird/store/Prefix" "QUEUE" "Lcom/example/lyrebird/lyrebird/store/Prefix;") ∈ tables_1 := List.mem_of_getElem? (i := 36) rfl
theorem tw_37 : (Jvm.Cond.fieldLink "com/example/lyrebird/lyrebird/store/PrefixKeyPinLaw" (31 : Nat) "com/example/lyrebird/lyrebird/store/Prefix" "SESSION" "Lcom/example/lyrebird/lyrebird/store/Prefix;") ∈ tables_1 := List.mem_of_getElem? (i := 37) rfl
theorem tw_38 : (Jvm.Cond.laysStatic "com/example/lyrebird/lyrebird/store/Prefix" "SESSION" "Lcom/example/lyrebird/lyrebird/store/Prefix;") ∈ tables_1 := List.mem_of_getElem? (i := 38) rfl
theorem tw_39 : (Jvm.Cond.fieldLink "com/example/lyrebird/lyrebird/store/PrefixKeyPinLaw" (16 : Nat) "com/example/lyrebird/lyrebird/store/Prefix" "DELETED_NODE" "Lcom/example/lyrebird/lyrebird/store/Prefix;") ∈ tables_1 := List.mem_of_getElem? (i := 39) rfl
theorem tw_40 : (Jvm.Cond.laysStatic "com/example/lyrebird/lyrebird/store/Prefix" "DELETED_NODE" "Lcom/example/lyrebird/lyrebird/store/Prefix;") ∈ tables_1 := List.mem_of_getElem? (i := 40) rfl
theorem tw_41 : (Jvm.Cond.fieldLink "com/example/lyrebird/lyrebird/store/PrefixKeyPinLaw" (52 : Nat) "com/example/lyrebird/lyrebird/store/Prefix" "CLAIM" "Lcom/example/lyrebird/lyrebird/store/Prefix;") ∈ tables_1 := List.mem_of_getElem? (i := 41) rfl
theorem tw_42 : (Jvm.Cond.laysStatic "com/example/lyrebird/lyrebird/store/Prefix" "CLAIM" "Lcom/example/lyrebird/lyrebird/store/Prefix;") ∈ tables_1 := List.mem_of_getElem? (i := 42) rfl
theorem tw_43 : (Jvm.Cond.fieldLink "com/example/lyrebird/lyrebird/store/PrefixKeyPinLaw" (13 : Nat) "com/example/lyrebird/lyrebird/store/Prefix" "NODE" "Lcom/example/lyrebird/lyrebird/store/Prefix;") ∈ tables_1 := List.mem_of_getElem? (i := 43) rfl
theorem tw_44 : (Jvm.Cond.laysStatic "com/example/lyrebird/lyrebird/store/Prefix" "NODE" "Lcom/example/lyrebird/lyrebird/store/Prefix;") ∈ tables_1 := List.mem_of_getElem? (i := 44) rfl
theorem tw_45 : (Jvm.Cond.fieldLink "com/example/lyrebird/lyrebird/store/PrefixKeyPinLaw" (28 : Nat) "com/example/lyrebird/lyrebird/store/Prefix" "COUNTER" "Lcom/example/lyrebird/lyrebird/store/Prefix;") ∈ tables_1 := List.mem_of_getElem? (i := 45) rfl
theorem tw_46 : (Jvm.Cond.laysStatic "com/example/lyrebird/lyrebird/store/Prefix" "COUNTER" "Lcom/example/lyrebird/lyrebird/store/Prefix;") ∈ tables_1 := List.mem_of_getElem? (i := 46) rfl
theorem tw_47 : (Jvm.Cond.fieldLink "com/example/lyrebird/lyrebird/store/PrefixKeyPinLaw" (43 : Nat) "com/example/lyrebird/lyrebird/store/Prefix" "MESSAGE" "Lcom/example/lyrebird/lyrebird/store/Prefix;") ∈ tables_1 := List.mem_of_getElem? (i := 47) rfl
theorem tw_48 : (Jvm.Cond.laysStatic "com/example/lyrebird/lyrebird/store/Prefix" "MESSAGE" "Lcom/example/lyrebird/lyrebird/store/Prefix;") ∈ tables_1 := List.mem_of_getElem? (i := 48) rfl
theorem tw_49 : (Jvm.Cond.fieldLink "com/example/lyrebird/lyrebird/store/PrefixKeyPinLaw" (34 : Nat) "com/example/lyrebird/lyrebird/store/Prefix" "UPLOAD" "Lcom/example/lyrebird/lyrebird/store/Prefix;") ∈ tables_1 := List.mem_of_getElem? (i := 49) rfl
theorem tw_50 : (Jvm.Cond.laysStatic "com/example/lyrebird/lyrebird/store/Prefix" "UPLOAD" "Lcom/example/lyrebird/lyrebird/store/Prefix;") ∈ tables_1 := List.mem_of_getElem? (i := 50) rfl
theorem d1_0 : decode method_2_code 0 = .ok (.iload_n 0, 1) := by decide +kernel
theorem d1_1 : decode method_2_code 1 = .ok (.ifCond .ne 7, 3) := by decide +kernel
theorem d1_4 : decode method_2_code 4 = .ok (.getstatic 7, 3) := by decide +kernel
theorem d1_7 : decode method_2_code 7 = .ok (.areturn, 1) := by decide +kernel
theorem d1_8 : decode method_2_code 8 = .ok (.iload_n 0, 1) := by decide +kernel
theorem d1_9 : decode method_2_code 9 = .ok (.iconst 1, 1) := by decide +kernel
theorem d1_10 : decode method_2_code 10 = .ok (.if_icmp .ne 7, 3) := by decide +kernel
theorem d1_13 : decode method_2_code 13 = .ok (.getstatic 13, 3) := by decide +kernel
theorem d1_16 : decode method_2_code 16 = .ok (.areturn, 1) := by decide +kernel
theorem d1_17 : decode method_2_code 17 = .ok (.iload_n 0, 1) := by decide +kernel
theorem d1_18 : decode method_2_code 18 = .ok (.iconst 2, 1) := by decide +kernel
theorem d1_19 : decode method_2_code 19 = .ok (.if_icmp .ne 7, 3) := by decide +kernel
theorem d1_22 : decode method_2_code 22 = .ok (.getstatic 16, 3) := by decide +kernel
theorem d1_25 : decode method_2_code 25 = .ok (.areturn, 1) := by decide +kernel
theorem d1_26 : decode method_2_code 26 = .ok (.iload_n 0, 1) := by decide +kernel
theorem d1_27 : decode method_2_code 27 = .ok (.iconst 3, 1) := by decide +kernel
theorem d1_28 : decode method_2_code 28 = .ok (.if_icmp .ne 7, 3) := by decide +kernel
theorem d1_31 : decode method_2_code 31 = .ok (.getstatic 19, 3) := by decide +kernel
theorem d1_34 : decode method_2_code 34 = .ok (.areturn, 1) := by decide +kernel
theorem d1_35 : decode method_2_code 35 = .ok (.iload_n 0, 1) := by decide +kernel
theorem d1_36 : decode method_2_code 36 = .ok (.iconst 4, 1) := by decide +kernel
theorem d1_37 : decode method_2_code 37 = .ok (.if_icmp .ne 7, 3) := by decide +kernel
theorem d1_40 : decode method_2_code 40 = .ok (.getstatic 22, 3) := by decide +kernel
theorem d1_43 : decode method_2_code 43 = .ok (.areturn, 1) := by decide +kernel
theorem d1_44 : decode method_2_code 44 = .ok (.iload_n 0, 1) := by decide +kernel
theorem d1_45 : decode method_2_code 45 = .ok (.iconst 5, 1) := by decide +kernel
theorem d1_46 : decode method_2_code 46 = .ok (.if_icmp .ne 7, 3) := by decide +kernel
theorem d1_49 : decode method_2_code 49 = .ok (.getstatic 25, 3) := by decide +kernel
theorem d1_52 : decode method_2_code 52 = .ok (.areturn, 1) := by decide +kernel
theorem d1_53 : decode method_2_code 53 = .ok (.iload_n 0, 1) := by decide +kernel
theorem d1_54 : decode method_2_code 54 = .ok (.bipush 6, 2) := by decide +kernel
theorem d1_56 : decode method_2_code 56 = .ok (.if_icmp .ne 7, 3) := by decide +kernel
theorem d1_59 : decode method_2_code 59 = .ok (.getstatic 28, 3) := by decide +kernel
theorem d1_62 : decode method_2_code 62 = .ok (.areturn, 1) := by decide +kernel
theorem d1_63 : decode method_2_code 63 = .ok (.iload_n 0, 1) := by decide +kernel
theorem d1_64 : decode method_2_code 64 = .ok (.bipush 7, 2) := by decide +kernel
theorem d1_66 : decode method_2_code 66 = .ok (.if_icmp .ne 7, 3) := by decide +kernel
theorem d1_69 : decode method_2_code 69 = .ok (.getstatic 31, 3) := by decide +kernel
theorem d1_72 : decode method_2_code 72 = .ok (.areturn, 1) := by decide +kernel
theorem d1_73 : decode method_2_code 73 = .ok (.iload_n 0, 1) := by decide +kernel
theorem d1_74 : decode method_2_code 74 = .ok (.bipush 8, 2) := by decide +kernel
theorem d1_76 : decode method_2_code 76 = .ok (.if_icmp .ne 7, 3) := by decide +kernel
theorem d1_79 : decode method_2_code 79 = .ok (.getstatic 34, 3) := by decide +kernel
theorem d1_82 : decode method_2_code 82 = .ok (.areturn, 1) := by decide +kernel
theorem d1_83 : decode method_2_code 83 = .ok (.iload_n 0, 1) := by decide +kernel
theorem d1_84 : decode method_2_code 84 = .ok (.bipush 9, 2) := by decide +kernel
theorem d1_86 : decode method_2_code 86 = .ok (.if_icmp .ne 7, 3) := by decide +kernel
theorem d1_89 : decode method_2_code 89 = .ok (.getstatic 37, 3) := by decide +kernel
theorem d1_92 : decode method_2_code 92 = .ok (.areturn, 1) := by decide +kernel
theorem d1_93 : decode method_2_code 93 = .ok (.iload_n 0, 1) := by decide +kernel
theorem d1_94 : decode method_2_code 94 = .ok (.bipush 10, 2) := by decide +kernel
theorem d1_96 : decode method_2_code 96 = .ok (.if_icmp .ne 7, 3) := by decide +kernel
theorem d1_99 : decode method_2_code 99 = .ok (.getstatic 40, 3) := by decide +kernel
theorem d1_102 : decode method_2_code 102 = .ok (.areturn, 1) := by decide +kernel
theorem d1_103 : decode method_2_code 103 = .ok (.iload_n 0, 1) := by decide +kernel
theorem d1_104 : decode method_2_code 104 = .ok (.bipush 11, 2) := by decide +kernel
theorem d1_106 : decode method_2_code 106 = .ok (.if_icmp .ne 7, 3) := by decide +kernel
theorem d1_109 : decode method_2_code 109 = .ok (.getstatic 43, 3) := by decide +kernel
theorem d1_112 : decode method_2_code 112 = .ok (.areturn, 1) := by decide +kernel
theorem d1_113 : decode method_2_code 113 = .ok (.iload_n 0, 1) := by decide +kernel
theorem d1_114 : decode method_2_code 114 = .ok (.bipush 12, 2) := by decide +kernel
theorem d1_116 : decode method_2_code 116 = .ok (.if_icmp .ne 7, 3) := by decide +kernel
theorem d1_119 : decode method_2_code 119 = .ok (.getstatic 46, 3) := by decide +kernel
theorem d1_122 : decode method_2_code 122 = .ok (.areturn, 1) := by decide +kernel
theorem d1_123 : decode method_2_code 123 = .ok (.iload_n 0, 1) := by decide +kernel
theorem d1_124 : decode method_2_code 124 = .ok (.bipush 13, 2) := by decide +kernel
theorem d1_126 : decode method_2_code 126 = .ok (.if_icmp .ne 7, 3) := by decide +kernel
theorem d1_129 : decode method_2_code 129 = .ok (.getstatic 49, 3) := by decide +kernel
theorem d1_132 : decode method_2_code 132 = .ok (.areturn, 1) := by decide +kernel
theorem d1_133 : decode method_2_code 133 = .ok (.getstatic 52, 3) := by decide +kernel
theorem d1_136 : decode method_2_code 136 = .ok (.areturn, 1) := by decide +kernel
theorem d2_0 : decode method_3_code 0 = .ok (.iload_n 0, 1) := by decide +kernel
theorem d2_1 : decode method_3_code 1 = .ok (.ifCond .ne 5, 3) := by decide +kernel
theorem d2_4 : decode method_3_code 4 = .ok (.iconst 0, 1) := by decide +kernel
theorem d2_5 : decode method_3_code 5 = .ok (.ireturn, 1) := by decide +kernel
theorem d2_6 : decode method_3_code 6 = .ok (.iload_n 0, 1) := by decide +kernel
theorem d2_7 : decode method_3_code 7 = .ok (.iconst 1, 1) := by decide +kernel
theorem d2_8 : decode method_3_code 8 = .ok (.if_icmp .ne 6, 3) := by decide +kernel
theorem d2_11 : decode method_3_code 11 = .ok (.bipush 110, 2) := by decide +kernel
theorem d2_13 : decode method_3_code 13 = .ok (.ireturn, 1) := by decide +kernel
theorem d2_14 : decode method_3_code 14 = .ok (.iload_n 0, 1) := by decide +kernel
theorem d2_15 : decode method_3_code 15 = .ok (.iconst 2, 1) := by decide +kernel
theorem d2_16 : decode method_3_code 16 = .ok (.if_icmp .ne 6, 3) := by decide +kernel
theorem d2_19 : decode method_3_code 19 = .ok (.bipush 100, 2) := by decide +kernel
theorem d2_21 : decode method_3_code 21 = .ok (.ireturn, 1) := by decide +kernel
theorem d2_22 : decode method_3_code 22 = .ok (.iload_n 0, 1) := by decide +kernel
theorem d2_23 : decode method_3_code 23 = .ok (.iconst 3, 1) := by decide +kernel
theorem d2_24 : decode method_3_code 24 = .ok (.if_icmp .ne 6, 3) := by decide +kernel
theorem d2_27 : decode method_3_code 27 = .ok (.bipush 118, 2) := by decide +kernel
theorem d2_29 : decode method_3_code 29 = .ok (.ireturn, 1) := by decide +kernel
theorem d2_30 : decode method_3_code 30 = .ok (.iload_n 0, 1) := by decide +kernel
theorem d2_31 : decode method_3_code 31 = .ok (.iconst 4, 1) := by decide +kernel
theorem d2_32 : decode method_3_code 32 = .ok (.if_icmp .ne 6, 3) := by decide +kernel
theorem d2_35 : decode method_3_code 35 = .ok (.bipush 115, 2) := by decide +kernel
theorem d2_37 : decode method_3_code 37 = .ok (.ireturn, 1) := by decide +kernel
theorem d2_38 : decode method_3_code 38 = .ok (.iload_n 0, 1) := by decide +kernel
theorem d2_39 : decode method_3_code 39 = .ok (.iconst 5, 1) := by decide +kernel
theorem d2_40 : decode method_3_code 40 = .ok (.if_icmp .ne 6, 3) := by decide +kernel
theorem d2_43 : decode method_3_code 43 = .ok (.bipush 101, 2) := by decide +kernel
theorem d2_45 : decode method_3_code 45 = .ok (.ireturn, 1) := by decide +kernel
theorem d2_46 : decode method_3_code 46 = .ok (.iload_n 0, 1) := by decide +kernel
theorem d2_47 : decode method_3_code 47 = .ok (.bipush 6, 2) := by decide +kernel
theorem d2_49 : decode method_3_code 49 = .ok (.if_icmp .ne 6, 3) := by decide +kernel
theorem d2_52 : decode method_3_code 52 = .ok (.bipush 99, 2) := by decide +kernel
theorem d2_54 : decode method_3_code 54 = .ok (.ireturn, 1) := by decide +kernel
theorem d2_55 : decode method_3_code 55 = .ok (.iload_n 0, 1) := by decide +kernel
theorem d2_56 : decode method_3_code 56 = .ok (.bipush 7, 2) := by decide +kernel
theorem d2_58 : decode method_3_code 58 = .ok (.if_icmp .ne 6, 3) := by decide +kernel
theorem d2_61 : decode method_3_code 61 = .ok (.bipush 83, 2) := by decide +kernel
theorem d2_63 : decode method_3_code 63 = .ok (.ireturn, 1) := by decide +kernel
theorem d2_64 : decode method_3_code 64 = .ok (.iload_n 0, 1) := by decide +kernel
theorem d2_65 : decode method_3_code 65 = .ok (.bipush 8, 2) := by decide +kernel
theorem d2_67 : decode method_3_code 67 = .ok (.if_icmp .ne 6, 3) := by decide +kernel
theorem d2_70 : decode method_3_code 70 = .ok (.bipush 117, 2) := by decide +kernel
theorem d2_72 : decode method_3_code 72 = .ok (.ireturn, 1) := by decide +kernel
theorem d2_73 : decode method_3_code 73 = .ok (.iload_n 0, 1) := by decide +kernel
theorem d2_74 : decode method_3_code 74 = .ok (.bipush 9, 2) := by decide +kernel
theorem d2_76 : decode method_3_code 76 = .ok (.if_icmp .ne 6, 3) := by decide +kernel
theorem d2_79 : decode method_3_code 79 = .ok (.bipush 107, 2) := by decide +kernel
theorem d2_81 : decode method_3_code 81 = .ok (.ireturn, 1) := by decide +kernel
theorem d2_82 : decode method_3_code 82 = .ok (.iload_n 0, 1) := by decide +kernel
theorem d2_83 : decode method_3_code 83 = .ok (.bipush 10, 2) := by decide +kernel
theorem d2_85 : decode method_3_code 85 = .ok (.if_icmp .ne 6, 3) := by decide +kernel
theorem d2_88 : decode method_3_code 88 = .ok (.bipush 81, 2) := by decide +kernel
theorem d2_90 : decode method_3_code 90 = .ok (.ireturn, 1) := by decide +kernel
theorem d2_91 : decode method_3_code 91 = .ok (.iload_n 0, 1) := by decide +kernel
theorem d2_92 : decode method_3_code 92 = .ok (.bipush 11, 2) := by decide +kernel
theorem d2_94 : decode method_3_code 94 = .ok (.if_icmp .ne 6, 3) := by decide +kernel
theorem d2_97 : decode method_3_code 97 = .ok (.bipush 77, 2) := by decide +kernel
theorem d2_99 : decode method_3_code 99 = .ok (.ireturn, 1) := by decide +kernel
theorem d2_100 : decode method_3_code 100 = .ok (.iload_n 0, 1) := by decide +kernel
theorem d2_101 : decode method_3_code 101 = .ok (.bipush 12, 2) := by decide +kernel
theorem d2_103 : decode method_3_code 103 = .ok (.if_icmp .ne 6, 3) := by decide +kernel
theorem d2_106 : decode method_3_code 106 = .ok (.bipush 69, 2) := by decide +kernel
theorem d2_108 : decode method_3_code 108 = .ok (.ireturn, 1) := by decide +kernel
theorem d2_109 : decode method_3_code 109 = .ok (.iload_n 0, 1) := by decide +kernel
theorem d2_110 : decode method_3_code 110 = .ok (.bipush 13, 2) := by decide +kernel
theorem d2_112 : decode method_3_code 112 = .ok (.if_icmp .ne 6, 3) := by decide +kernel
theorem d2_115 : decode method_3_code 115 = .ok (.bipush 78, 2) := by decide +kernel
theorem d2_117 : decode method_3_code 117 = .ok (.ireturn, 1) := by decide +kernel
theorem d2_118 : decode method_3_code 118 = .ok (.bipush 67, 2) := by decide +kernel
theorem d2_120 : decode method_3_code 120 = .ok (.ireturn, 1) := by decide +kernel
theorem d3_0 : decode prog_10_method_7_code 0 = .ok (.aload_n 1, 1) := by decide +kernel
theorem d3_1 : decode prog_10_method_7_code 1 = .ok (.arraylength, 1) := by decide +kernel
theorem d3_2 : decode prog_10_method_7_code 2 = .ok (.iconst 1, 1) := by decide +kernel
theorem d3_3 : decode prog_10_method_7_code 3 = .ok (.iadd, 1) := by decide +kernel
theorem d3_4 : decode prog_10_method_7_code 4 = .ok (.newarray .byte, 2) := by decide +kernel
theorem d3_6 : decode prog_10_method_7_code 6 = .ok (.astore_n 2, 1) := by decide +kernel
theorem d3_7 : decode prog_10_method_7_code 7 = .ok (.aload_n 2, 1) := by decide +kernel
theorem d3_8 : decode prog_10_method_7_code 8 = .ok (.iconst 0, 1) := by decide +kernel
theorem d3_9 : decode prog_10_method_7_code 9 = .ok (.aload_n 0, 1) := by decide +kernel
theorem d3_10 : decode prog_10_method_7_code 10 = .ok (.getfield 68, 3) := by decide +kernel
theorem d3_13 : decode prog_10_method_7_code 13 = .ok (.bastore, 1) := by decide +kernel
theorem d3_14 : decode prog_10_method_7_code 14 = .ok (.aload_n 1, 1) := by decide +kernel
theorem d3_15 : decode prog_10_method_7_code 15 = .ok (.iconst 0, 1) := by decide +kernel
theorem d3_16 : decode prog_10_method_7_code 16 = .ok (.aload_n 2, 1) := by decide +kernel
theorem d3_17 : decode prog_10_method_7_code 17 = .ok (.iconst 1, 1) := by decide +kernel
theorem d3_18 : decode prog_10_method_7_code 18 = .ok (.aload_n 1, 1) := by decide +kernel
theorem d3_19 : decode prog_10_method_7_code 19 = .ok (.arraylength, 1) := by decide +kernel
theorem d3_20 : decode prog_10_method_7_code 20 = .ok (.invokestatic 97, 3) := by decide +kernel
theorem d3_23 : decode prog_10_method_7_code 23 = .ok (.aload_n 2, 1) := by decide +kernel
theorem d3_24 : decode prog_10_method_7_code 24 = .ok (.areturn, 1) := by decide +kernel
theorem pd_0 : parseMethodDescriptor "(I)Lcom/example/lyrebird/lyrebird/store/Prefix;" = some ⟨[.int], some (.object "com/example/lyrebird/lyrebird/store/Prefix")⟩ := by decide +kernel
theorem pd_1 : parseMethodDescriptor "(I)I" = some ⟨[.int], some .int⟩ := by decide +kernel
theorem pd_2 : parseMethodDescriptor "([B)[B" = some ⟨[(.array .byte)], some (.array .byte)⟩ := by decide +kernel
theorem pn_0 : plainName "com/example/lyrebird/lyrebird/store/PrefixKeyPinLaw" = true := by first | (simp [plainName, overriddenIn]; done) | decide +kernel
theorem pn_1 : plainName "com/example/lyrebird/lyrebird/store/Prefix" = true := by first | (simp [plainName, overriddenIn]; done) | decide +kernel
theorem ef_1 (m : MethodId) (x0 : Int32) : entryFrame m #[(.int x0)] 1 = mkF m 0 #[.val (.int x0)] [] := by first | (simp [entryFrame, mkF, argsToLocals, Value.category]; done) | rfl
theorem ef_2 (m : MethodId) (x0 : Int32) : entryFrame m #[(.int x0)] 1 = mkF m 0 #[.val (.int x0)] [] := by first | (simp [entryFrame, mkF, argsToLocals, Value.category]; done) | rfl
theorem ef_3_0 (m : MethodId) (x0 : Addr) (x1 : Addr) : entryFrame m #[(.ref x0), (.ref x1)] 3 = mkF m 0 #[.val (.ref x0), .val (.ref x1), .unset] [] := by first | (simp [entryFrame, mkF, argsToLocals, Value.category]; done) | rfl
theorem ef_3_1 (m : MethodId) (x0 : Addr) (x1 : Addr) : entryFrame m #[(.ref x0), (.ref x1)] 3 = mkF m 0 #[.val (.ref x0), .val (.ref x1), .unset] [] := by first | (simp [entryFrame, mkF, argsToLocals, Value.category]; done) | rfl
theorem ef_3_2 (m : MethodId) (x0 : Addr) (x1 : Addr) : entryFrame m #[(.ref x0), (.ref x1)] 3 = mkF m 0 #[.val (.ref x0), .val (.ref x1), .unset] [] := by first | (simp [entryFrame, mkF, argsToLocals, Value.category]; done) | rfl
theorem ef_3_3 (m : MethodId) (x0 : Addr) (x1 : Addr) : entryFrame m #[(.ref x0), (.ref x1)] 3 = mkF m 0 #[.val (.ref x0), .val (.ref x1), .unset] [] := by first | (simp [entryFrame, mkF, argsToLocals, Value.category]; done) | rfl
theorem ef_3_4 (m : MethodId) (x0 : Addr) (x1 : Addr) : entryFrame m #[(.ref x0), (.ref x1)] 3 = mkF m 0 #[.val (.ref x0), .val (.ref x1), .unset] [] := by first | (simp [entryFrame, mkF, argsToLocals, Value.category]; done) | rfl
theorem ef_0 (m : MethodId) (x0 : Int32) (x1 : Int32) (x2 : Int32) (x3 : Int32) (x4 : Int32) (x5 : Int32) : entryFrame m #[(.int x0), (.int x1), (.int x2), (.int x3), (.int x4), (.int x5)] maxLocals = mkF m 0 #[.val (.int x0), .val (.int x1), .val (.int x2), .val (.int x3), .val (.int x4), .val (.int x5), .unset, .unset, .unset, .unset, .unset, .unset] [] := by first | (simp [entryFrame, mkF, argsToLocals, Value.category, maxLocals]; done) | rfl
set_option maxRecDepth 65536 in
set_option maxHeartbeats 40000000 in
theorem rm1 (l : Launch) (Z : State) (a0 : Array Value) (hw : ∀ d ∈ tables_1, d.before a0 Z = true) (x0 : Int32) (h0 : Heap) {a_PROBE a_LAST_VERSION a_VERSION a_LAST_MESSAGE a_EPHEMERAL a_MESSAGE_END a_CHUNK a_QUEUE a_SESSION a_DELETED_NODE a_CLAIM a_NODE a_COUNTER a_MESSAGE a_UPLOAD : Addr} (G : OwnG Z a_PROBE a_LAST_VERSION a_VERSION a_LAST_MESSAGE a_EPHEMERAL a_MESSAGE_END a_CHUNK a_QUEUE a_SESSION a_DELETED_NODE a_CLAIM a_NODE a_COUNTER a_MESSAGE a_UPLOAD) (O : Ext Z.heap h0) :
    OwnMet l Z (⟨"com/example/lyrebird/lyrebird/store/PrefixKeyPinLaw", "pick", "(I)Lcom/example/lyrebird/lyrebird/store/Prefix;"⟩ : MethodName) method_2_code 1 (some (.object "com/example/lyrebird/lyrebird/store/Prefix")) [] ({ frames := 0, cells := 0, slots := 0, locals := 0 } : Room) #[(.int x0)] h0 (fun v h L => ∃ a, v = some (.ref a) ∧ L = [] ∧ h = h0 ∧ Exa Z Z.heap a "com/example/lyrebird/lyrebird/store/Prefix" ∧ Fld Z Z.heap a "com/example/lyrebird/lyrebird/store/Prefix" "first" "B" (.int (own_first x0))) := by
  refine own_body (plainFor_of_name pn_0) (fun m => ef_1 m x0) ?_
  intro p e s m below meth c s₁ X0 hx hby hml hown hnm hret hlk hZ e0
  replace hown : s.vm.findClass "com/example/lyrebird/lyrebird/store/PrefixKeyPinLaw" = some m.cls := hown
  replace hml : c.maxLocals = 1 := hml
  show Ends p.tables e below _ (s₁.setTop (mkF m 0 #[.val (.int x0)] []))
  refine own_iloadN X0 hx hby d1_0 rfl rfl ?_
  refine own_if_ne X0 hx hby d1_1 (pcY := 8) (pcN := 4) (by decide) rfl (fun (hc1 : ¬ x0 = (0 : Int32)) => ?_) (fun (hc1 : x0 = (0 : Int32)) => ?_)
  · -- pc 1: t
    refine own_iloadN X0 hx hby d1_8 rfl rfl ?_
    refine own_iconst X0 hx hby d1_9 rfl (1 : Int32) rfl ?_
    refine own_icmp_ne X0 hx hby d1_10 (pcY := 17) (pcN := 13) (by decide) rfl (fun (hc2 : ¬ x0 = (1 : Int32)) => ?_) (fun (hc2 : x0 = (1 : Int32)) => ?_)
    · -- pc 10: t
      refine own_iloadN X0 hx hby d1_17 rfl rfl ?_
      refine own_iconst X0 hx hby d1_18 rfl (2 : Int32) rfl ?_
      refine own_icmp_ne X0 hx hby d1_19 (pcY := 26) (pcN := 22) (by decide) rfl (fun (hc3 : ¬ x0 = (2 : Int32)) => ?_) (fun (hc3 : x0 = (2 : Int32)) => ?_)
      · -- pc 19: t
        refine own_iloadN X0 hx hby d1_26 rfl rfl ?_
        refine own_iconst X0 hx hby d1_27 rfl (3 : Int32) rfl ?_
        refine own_icmp_ne X0 hx hby d1_28 (pcY := 35) (pcN := 31) (by decide) rfl (fun (hc4 : ¬ x0 = (3 : Int32)) => ?_) (fun (hc4 : x0 = (3 : Int32)) => ?_)
        · -- pc 28: t
          refine own_iloadN X0 hx hby d1_35 rfl rfl ?_
          refine own_iconst X0 hx hby d1_36 rfl (4 : Int32) rfl ?_
          refine own_icmp_ne X0 hx hby d1_37 (pcY := 44) (pcN := 40) (by decide) rfl (fun (hc5 : ¬ x0 = (4 : Int32)) => ?_) (fun (hc5 : x0 = (4 : Int32)) => ?_)
          · -- pc 37: t
            refine own_iloadN X0 hx hby d1_44 rfl rfl ?_
            refine own_iconst X0 hx hby d1_45 rfl (5 : Int32) rfl ?_
            refine own_icmp_ne X0 hx hby d1_46 (pcY := 53) (pcN := 49) (by decide) rfl (fun (hc6 : ¬ x0 = (5 : Int32)) => ?_) (fun (hc6 : x0 = (5 : Int32)) => ?_)
            · -- pc 46: t
              refine own_iloadN X0 hx hby d1_53 rfl rfl ?_
              refine own_bipush X0 hx hby d1_54 rfl (6 : Int32) rfl ?_
              refine own_icmp_ne X0 hx hby d1_56 (pcY := 63) (pcN := 59) (by decide) rfl (fun (hc7 : ¬ x0 = (6 : Int32)) => ?_) (fun (hc7 : x0 = (6 : Int32)) => ?_)
              · -- pc 56: t
                refine own_iloadN X0 hx hby d1_63 rfl rfl ?_
                refine own_bipush X0 hx hby d1_64 rfl (7 : Int32) rfl ?_
                refine own_icmp_ne X0 hx hby d1_66 (pcY := 73) (pcN := 69) (by decide) rfl (fun (hc8 : ¬ x0 = (7 : Int32)) => ?_) (fun (hc8 : x0 = (7 : Int32)) => ?_)
                · -- pc 66: t
                  refine own_iloadN X0 hx hby d1_73 rfl rfl ?_
                  refine own_bipush X0 hx hby d1_74 rfl (8 : Int32) rfl ?_
                  refine own_icmp_ne X0 hx hby d1_76 (pcY := 83) (pcN := 79) (by decide) rfl (fun (hc9 : ¬ x0 = (8 : Int32)) => ?_) (fun (hc9 : x0 = (8 : Int32)) => ?_)
                  · -- pc 76: t
                    refine own_iloadN X0 hx hby d1_83 rfl rfl ?_
                    refine own_bipush X0 hx hby d1_84 rfl (9 : Int32) rfl ?_
                    refine own_icmp_ne X0 hx hby d1_86 (pcY := 93) (pcN := 89) (by decide) rfl (fun (hc10 : ¬ x0 = (9 : Int32)) => ?_) (fun (hc10 : x0 = (9 : Int32)) => ?_)
                    · -- pc 86: t
                      refine own_iloadN X0 hx hby d1_93 rfl rfl ?_
                      refine own_bipush X0 hx hby d1_94 rfl (10 : Int32) rfl ?_
                      refine own_icmp_ne X0 hx hby d1_96 (pcY := 103) (pcN := 99) (by decide) rfl (fun (hc11 : ¬ x0 = (10 : Int32)) => ?_) (fun (hc11 : x0 = (10 : Int32)) => ?_)
                      · -- pc 96: t
                        refine own_iloadN X0 hx hby d1_103 rfl rfl ?_
                        refine own_bipush X0 hx hby d1_104 rfl (11 : Int32) rfl ?_
                        refine own_icmp_ne X0 hx hby d1_106 (pcY := 113) (pcN := 109) (by decide) rfl (fun (hc12 : ¬ x0 = (11 : Int32)) => ?_) (fun (hc12 : x0 = (11 : Int32)) => ?_)
                        · -- pc 106: t
                          refine own_iloadN X0 hx hby d1_113 rfl rfl ?_
                          refine own_bipush X0 hx hby d1_114 rfl (12 : Int32) rfl ?_
                          refine own_icmp_ne X0 hx hby d1_116 (pcY := 123) (pcN := 119) (by decide) rfl (fun (hc13 : ¬ x0 = (12 : Int32)) => ?_) (fun (hc13 : x0 = (12 : Int32)) => ?_)
                          · -- pc 116: t
                            refine own_iloadN X0 hx hby d1_123 rfl rfl ?_
                            refine own_bipush X0 hx hby d1_124 rfl (13 : Int32) rfl ?_
                            refine own_icmp_ne X0 hx hby d1_126 (pcY := 133) (pcN := 129) (by decide) rfl (fun (hc14 : ¬ x0 = (13 : Int32)) => ?_) (fun (hc14 : x0 = (13 : Int32)) => ?_)
                            · -- pc 126: t
                              refine own_getstatic X0 hx hby hZ hown (host := "") (Or.inl (hw _ tw_41)) Via.refl e0 ((g_S_CLAIM G).ext O) d1_133 rfl (fun T15 X15 e15 => ?_)
                              refine own_ret X15 hx hby hret hlk d1_136 (.ref a_CLAIM) rfl (Or.inr (Or.inr ⟨rfl, rfl, rfl⟩)) (by decide) (by decide) ?_
                              refine ⟨_, rfl, rfl, e15, g_E_CLAIM G, ?_⟩
                              have q : own_first x0 = 67 := by simp [own_first, hc1, hc2, hc3, hc4, hc5, hc6, hc7, hc8, hc9, hc10, hc11, hc12, hc13, hc14]
                              rw [q]; exact g_F_CLAIM_first G
                            · -- pc 126: f
                              refine own_getstatic X0 hx hby hZ hown (host := "") (Or.inl (hw _ tw_27)) Via.refl e0 ((g_S_LAST_MESSAGE G).ext O) d1_129 rfl (fun T16 X16 e16 => ?_)
                              refine own_ret X16 hx hby hret hlk d1_132 (.ref a_LAST_MESSAGE) rfl (Or.inr (Or.inr ⟨rfl, rfl, rfl⟩)) (by decide) (by decide) ?_
                              refine ⟨_, rfl, rfl, e16, g_E_LAST_MESSAGE G, ?_⟩
                              have q : own_first x0 = 78 := by simp [own_first, hc1, hc2, hc3, hc4, hc5, hc6, hc7, hc8, hc9, hc10, hc11, hc12, hc13, hc14]
                              rw [q]; exact g_F_LAST_MESSAGE_first G
                          · -- pc 116: f
                            refine own_getstatic X0 hx hby hZ hown (host := "") (Or.inl (hw _ tw_31)) Via.refl e0 ((g_S_MESSAGE_END G).ext O) d1_119 rfl (fun T17 X17 e17 => ?_)
                            refine own_ret X17 hx hby hret hlk d1_122 (.ref a_MESSAGE_END) rfl (Or.inr (Or.inr ⟨rfl, rfl, rfl⟩)) (by decide) (by decide) ?_
                            refine ⟨_, rfl, rfl, e17, g_E_MESSAGE_END G, ?_⟩
                            have q : own_first x0 = 69 := by simp [own_first, hc1, hc2, hc3, hc4, hc5, hc6, hc7, hc8, hc9, hc10, hc11, hc12, hc13]
                            rw [q]; exact g_F_MESSAGE_END_first G
                        · -- pc 106: f
                          refine own_getstatic X0 hx hby hZ hown (host := "") (Or.inl (hw _ tw_47)) Via.refl e0 ((g_S_MESSAGE G).ext O) d1_109 rfl (fun T18 X18 e18 => ?_)
                          refine own_ret X18 hx hby hret hlk d1_112 (.ref a_MESSAGE) rfl (Or.inr (Or.inr ⟨rfl, rfl, rfl⟩)) (by decide) (by decide) ?_
                          refine ⟨_, rfl, rfl, e18, g_E_MESSAGE G, ?_⟩
                          have q : own_first x0 = 77 := by simp [own_first, hc1, hc2, hc3, hc4, hc5, hc6, hc7, hc8, hc9, hc10, hc11, hc12]
                          rw [q]; exact g_F_MESSAGE_first G
                      · -- pc 96: f
                        refine own_getstatic X0 hx hby hZ hown (host := "") (Or.inl (hw _ tw_35)) Via.refl e0 ((g_S_QUEUE G).ext O) d1_99 rfl (fun T19 X19 e19 => ?_)
                        refine own_ret X19 hx hby hret hlk d1_102 (.ref a_QUEUE) rfl (Or.inr (Or.inr ⟨rfl, rfl, rfl⟩)) (by decide) (by decide) ?_
                        refine ⟨_, rfl, rfl, e19, g_E_QUEUE G, ?_⟩
                        have q : own_first x0 = 81 := by simp [own_first, hc1, hc2, hc3, hc4, hc5, hc6, hc7, hc8, hc9, hc10, hc11]
                        rw [q]; exact g_F_QUEUE_first G
                    · -- pc 86: f
                      refine own_getstatic X0 hx hby hZ hown (host := "") (Or.inl (hw _ tw_33)) Via.refl e0 ((g_S_CHUNK G).ext O) d1_89 rfl (fun T20 X20 e20 => ?_)
                      refine own_ret X20 hx hby hret hlk d1_92 (.ref a_CHUNK) rfl (Or.inr (Or.inr ⟨rfl, rfl, rfl⟩)) (by decide) (by decide) ?_
                      refine ⟨_, rfl, rfl, e20, g_E_CHUNK G, ?_⟩
                      have q : own_first x0 = 107 := by simp [own_first, hc1, hc2, hc3, hc4, hc5, hc6, hc7, hc8, hc9, hc10]
                      rw [q]; exact g_F_CHUNK_first G
                  · -- pc 76: f
                    refine own_getstatic X0 hx hby hZ hown (host := "") (Or.inl (hw _ tw_49)) Via.refl e0 ((g_S_UPLOAD G).ext O) d1_79 rfl (fun T21 X21 e21 => ?_)
                    refine own_ret X21 hx hby hret hlk d1_82 (.ref a_UPLOAD) rfl (Or.inr (Or.inr ⟨rfl, rfl, rfl⟩)) (by decide) (by decide) ?_
                    refine ⟨_, rfl, rfl, e21, g_E_UPLOAD G, ?_⟩
                    have q : own_first x0 = 117 := by simp [own_first, hc1, hc2, hc3, hc4, hc5, hc6, hc7, hc8, hc9]
                    rw [q]; exact g_F_UPLOAD_first G
                · -- pc 66: f
                  refine own_getstatic X0 hx hby hZ hown (host := "") (Or.inl (hw _ tw_37)) Via.refl e0 ((g_S_SESSION G).ext O) d1_69 rfl (fun T22 X22 e22 => ?_)
                  refine own_ret X22 hx hby hret hlk d1_72 (.ref a_SESSION) rfl (Or.inr (Or.inr ⟨rfl, rfl, rfl⟩)) (by decide) (by decide) ?_
                  refine ⟨_, rfl, rfl, e22, g_E_SESSION G, ?_⟩
                  have q : own_first x0 = 83 := by simp [own_first, hc1, hc2, hc3, hc4, hc5, hc6, hc7, hc8]
                  rw [q]; exact g_F_SESSION_first G
              · -- pc 56: f
                refine own_getstatic X0 hx hby hZ hown (host := "") (Or.inl (hw _ tw_45)) Via.refl e0 ((g_S_COUNTER G).ext O) d1_59 rfl (fun T23 X23 e23 => ?_)
                refine own_ret X23 hx hby hret hlk d1_62 (.ref a_COUNTER) rfl (Or.inr (Or.inr ⟨rfl, rfl, rfl⟩)) (by decide) (by decide) ?_
                refine ⟨_, rfl, rfl, e23, g_E_COUNTER G, ?_⟩
                have q : own_first x0 = 99 := by simp [own_first, hc1, hc2, hc3, hc4, hc5, hc6, hc7]
                rw [q]; exact g_F_COUNTER_first G
            · -- pc 46: f
              refine own_getstatic X0 hx hby hZ hown (host := "") (Or.inl (hw _ tw_29)) Via.refl e0 ((g_S_EPHEMERAL G).ext O) d1_49 rfl (fun T24 X24 e24 => ?_)
              refine own_ret X24 hx hby hret hlk d1_52 (.ref a_EPHEMERAL) rfl (Or.inr (Or.inr ⟨rfl, rfl, rfl⟩)) (by decide) (by decide) ?_
              refine ⟨_, rfl, rfl, e24, g_E_EPHEMERAL G, ?_⟩
              have q : own_first x0 = 101 := by simp [own_first, hc1, hc2, hc3, hc4, hc5, hc6]
              rw [q]; exact g_F_EPHEMERAL_first G
          · -- pc 37: f
            refine own_getstatic X0 hx hby hZ hown (host := "") (Or.inl (hw _ tw_23)) Via.refl e0 ((g_S_LAST_VERSION G).ext O) d1_40 rfl (fun T25 X25 e25 => ?_)
            refine own_ret X25 hx hby hret hlk d1_43 (.ref a_LAST_VERSION) rfl (Or.inr (Or.inr ⟨rfl, rfl, rfl⟩)) (by decide) (by decide) ?_
            refine ⟨_, rfl, rfl, e25, g_E_LAST_VERSION G, ?_⟩
            have q : own_first x0 = 115 := by simp [own_first, hc1, hc2, hc3, hc4, hc5]
            rw [q]; exact g_F_LAST_VERSION_first G
        · -- pc 28: f
          refine own_getstatic X0 hx hby hZ hown (host := "") (Or.inl (hw _ tw_25)) Via.refl e0 ((g_S_VERSION G).ext O) d1_31 rfl (fun T26 X26 e26 => ?_)
          refine own_ret X26 hx hby hret hlk d1_34 (.ref a_VERSION) rfl (Or.inr (Or.inr ⟨rfl, rfl, rfl⟩)) (by decide) (by decide) ?_
          refine ⟨_, rfl, rfl, e26, g_E_VERSION G, ?_⟩
          have q : own_first x0 = 118 := by simp [own_first, hc1, hc2, hc3, hc4]
          rw [q]; exact g_F_VERSION_first G
      · -- pc 19: f
        refine own_getstatic X0 hx hby hZ hown (host := "") (Or.inl (hw _ tw_39)) Via.refl e0 ((g_S_DELETED_NODE G).ext O) d1_22 rfl (fun T27 X27 e27 => ?_)
        refine own_ret X27 hx hby hret hlk d1_25 (.ref a_DELETED_NODE) rfl (Or.inr (Or.inr ⟨rfl, rfl, rfl⟩)) (by decide) (by decide) ?_
        refine ⟨_, rfl, rfl, e27, g_E_DELETED_NODE G, ?_⟩
        have q : own_first x0 = 100 := by simp [own_first, hc1, hc2, hc3]
        rw [q]; exact g_F_DELETED_NODE_first G
    · -- pc 10: f
      refine own_getstatic X0 hx hby hZ hown (host := "") (Or.inl (hw _ tw_43)) Via.refl e0 ((g_S_NODE G).ext O) d1_13 rfl (fun T28 X28 e28 => ?_)
      refine own_ret X28 hx hby hret hlk d1_16 (.ref a_NODE) rfl (Or.inr (Or.inr ⟨rfl, rfl, rfl⟩)) (by decide) (by decide) ?_
      refine ⟨_, rfl, rfl, e28, g_E_NODE G, ?_⟩
      have q : own_first x0 = 110 := by simp [own_first, hc1, hc2]
      rw [q]; exact g_F_NODE_first G
  · -- pc 1: f
    refine own_getstatic X0 hx hby hZ hown (host := "") (Or.inl (hw _ tw_5)) Via.refl e0 ((g_S_PROBE G).ext O) d1_4 rfl (fun T29 X29 e29 => ?_)
    refine own_ret X29 hx hby hret hlk d1_7 (.ref a_PROBE) rfl (Or.inr (Or.inr ⟨rfl, rfl, rfl⟩)) (by decide) (by decide) ?_
    refine ⟨_, rfl, rfl, e29, g_E_PROBE G, ?_⟩
    have q : own_first x0 = 0 := by simp [own_first, hc1]
    rw [q]; exact g_F_PROBE_first G
set_option maxRecDepth 65536 in
set_option maxHeartbeats 40000000 in
theorem rm2 (l : Launch) (Z : State) (a0 : Array Value) (hw : ∀ d ∈ tables_1, d.before a0 Z = true) (x0 : Int32) (h0 : Heap) :
    OwnMet l Z (⟨"com/example/lyrebird/lyrebird/store/PrefixKeyPinLaw", "firstOf", "(I)I"⟩ : MethodName) method_3_code 1 (some .int) [] ({ frames := 0, cells := 0, slots := 0, locals := 0 } : Room) #[(.int x0)] h0 (fun v h L => v = some (.int (own_first x0)) ∧ L = [] ∧ h = h0) := by
  refine own_body (plainFor_of_name pn_0) (fun m => ef_2 m x0) ?_
  intro p e s m below meth c s₁ X0 hx hby hml hown hnm hret hlk hZ e0
  replace hown : s.vm.findClass "com/example/lyrebird/lyrebird/store/PrefixKeyPinLaw" = some m.cls := hown
  replace hml : c.maxLocals = 1 := hml
  show Ends p.tables e below _ (s₁.setTop (mkF m 0 #[.val (.int x0)] []))
  refine own_iloadN X0 hx hby d2_0 rfl rfl ?_
  refine own_if_ne X0 hx hby d2_1 (pcY := 6) (pcN := 4) (by decide) rfl (fun (hc30 : ¬ x0 = (0 : Int32)) => ?_) (fun (hc30 : x0 = (0 : Int32)) => ?_)
  · -- pc 1: t
    refine own_iloadN X0 hx hby d2_6 rfl rfl ?_
    refine own_iconst X0 hx hby d2_7 rfl (1 : Int32) rfl ?_
    refine own_icmp_ne X0 hx hby d2_8 (pcY := 14) (pcN := 11) (by decide) rfl (fun (hc31 : ¬ x0 = (1 : Int32)) => ?_) (fun (hc31 : x0 = (1 : Int32)) => ?_)
    · -- pc 8: t
      refine own_iloadN X0 hx hby d2_14 rfl rfl ?_
      refine own_iconst X0 hx hby d2_15 rfl (2 : Int32) rfl ?_
      refine own_icmp_ne X0 hx hby d2_16 (pcY := 22) (pcN := 19) (by decide) rfl (fun (hc32 : ¬ x0 = (2 : Int32)) => ?_) (fun (hc32 : x0 = (2 : Int32)) => ?_)
      · -- pc 16: t
        refine own_iloadN X0 hx hby d2_22 rfl rfl ?_
        refine own_iconst X0 hx hby d2_23 rfl (3 : Int32) rfl ?_
        refine own_icmp_ne X0 hx hby d2_24 (pcY := 30) (pcN := 27) (by decide) rfl (fun (hc33 : ¬ x0 = (3 : Int32)) => ?_) (fun (hc33 : x0 = (3 : Int32)) => ?_)
        · -- pc 24: t
          refine own_iloadN X0 hx hby d2_30 rfl rfl ?_
          refine own_iconst X0 hx hby d2_31 rfl (4 : Int32) rfl ?_
          refine own_icmp_ne X0 hx hby d2_32 (pcY := 38) (pcN := 35) (by decide) rfl (fun (hc34 : ¬ x0 = (4 : Int32)) => ?_) (fun (hc34 : x0 = (4 : Int32)) => ?_)
          · -- pc 32: t
            refine own_iloadN X0 hx hby d2_38 rfl rfl ?_
            refine own_iconst X0 hx hby d2_39 rfl (5 : Int32) rfl ?_
            refine own_icmp_ne X0 hx hby d2_40 (pcY := 46) (pcN := 43) (by decide) rfl (fun (hc35 : ¬ x0 = (5 : Int32)) => ?_) (fun (hc35 : x0 = (5 : Int32)) => ?_)
            · -- pc 40: t
              refine own_iloadN X0 hx hby d2_46 rfl rfl ?_
              refine own_bipush X0 hx hby d2_47 rfl (6 : Int32) rfl ?_
              refine own_icmp_ne X0 hx hby d2_49 (pcY := 55) (pcN := 52) (by decide) rfl (fun (hc36 : ¬ x0 = (6 : Int32)) => ?_) (fun (hc36 : x0 = (6 : Int32)) => ?_)
              · -- pc 49: t
                refine own_iloadN X0 hx hby d2_55 rfl rfl ?_
                refine own_bipush X0 hx hby d2_56 rfl (7 : Int32) rfl ?_
                refine own_icmp_ne X0 hx hby d2_58 (pcY := 64) (pcN := 61) (by decide) rfl (fun (hc37 : ¬ x0 = (7 : Int32)) => ?_) (fun (hc37 : x0 = (7 : Int32)) => ?_)
                · -- pc 58: t
                  refine own_iloadN X0 hx hby d2_64 rfl rfl ?_
                  refine own_bipush X0 hx hby d2_65 rfl (8 : Int32) rfl ?_
                  refine own_icmp_ne X0 hx hby d2_67 (pcY := 73) (pcN := 70) (by decide) rfl (fun (hc38 : ¬ x0 = (8 : Int32)) => ?_) (fun (hc38 : x0 = (8 : Int32)) => ?_)
                  · -- pc 67: t
                    refine own_iloadN X0 hx hby d2_73 rfl rfl ?_
                    refine own_bipush X0 hx hby d2_74 rfl (9 : Int32) rfl ?_
                    refine own_icmp_ne X0 hx hby d2_76 (pcY := 82) (pcN := 79) (by decide) rfl (fun (hc39 : ¬ x0 = (9 : Int32)) => ?_) (fun (hc39 : x0 = (9 : Int32)) => ?_)
                    · -- pc 76: t
                      refine own_iloadN X0 hx hby d2_82 rfl rfl ?_
                      refine own_bipush X0 hx hby d2_83 rfl (10 : Int32) rfl ?_
                      refine own_icmp_ne X0 hx hby d2_85 (pcY := 91) (pcN := 88) (by decide) rfl (fun (hc40 : ¬ x0 = (10 : Int32)) => ?_) (fun (hc40 : x0 = (10 : Int32)) => ?_)
                      · -- pc 85: t
                        refine own_iloadN X0 hx hby d2_91 rfl rfl ?_
                        refine own_bipush X0 hx hby d2_92 rfl (11 : Int32) rfl ?_
                        refine own_icmp_ne X0 hx hby d2_94 (pcY := 100) (pcN := 97) (by decide) rfl (fun (hc41 : ¬ x0 = (11 : Int32)) => ?_) (fun (hc41 : x0 = (11 : Int32)) => ?_)
                        · -- pc 94: t
                          refine own_iloadN X0 hx hby d2_100 rfl rfl ?_
                          refine own_bipush X0 hx hby d2_101 rfl (12 : Int32) rfl ?_
                          refine own_icmp_ne X0 hx hby d2_103 (pcY := 109) (pcN := 106) (by decide) rfl (fun (hc42 : ¬ x0 = (12 : Int32)) => ?_) (fun (hc42 : x0 = (12 : Int32)) => ?_)
                          · -- pc 103: t
                            refine own_iloadN X0 hx hby d2_109 rfl rfl ?_
                            refine own_bipush X0 hx hby d2_110 rfl (13 : Int32) rfl ?_
                            refine own_icmp_ne X0 hx hby d2_112 (pcY := 118) (pcN := 115) (by decide) rfl (fun (hc43 : ¬ x0 = (13 : Int32)) => ?_) (fun (hc43 : x0 = (13 : Int32)) => ?_)
                            · -- pc 112: t
                              refine own_bipush X0 hx hby d2_118 rfl (67 : Int32) rfl ?_
                              refine own_ret X0 hx hby hret hlk d2_120 (.int (67 : Int32)) rfl (Or.inl ⟨rfl, by simp, _, rfl⟩) (by decide) (by decide) ?_
                              refine ⟨?_, rfl, e0⟩
                              simp [own_first, hc30, hc31, hc32, hc33, hc34, hc35, hc36, hc37, hc38, hc39, hc40, hc41, hc42, hc43]
                            · -- pc 112: f
                              refine own_bipush X0 hx hby d2_115 rfl (78 : Int32) rfl ?_
                              refine own_ret X0 hx hby hret hlk d2_117 (.int (78 : Int32)) rfl (Or.inl ⟨rfl, by simp, _, rfl⟩) (by decide) (by decide) ?_
                              refine ⟨?_, rfl, e0⟩
                              simp [own_first, hc30, hc31, hc32, hc33, hc34, hc35, hc36, hc37, hc38, hc39, hc40, hc41, hc42, hc43]
                          · -- pc 103: f
                            refine own_bipush X0 hx hby d2_106 rfl (69 : Int32) rfl ?_
                            refine own_ret X0 hx hby hret hlk d2_108 (.int (69 : Int32)) rfl (Or.inl ⟨rfl, by simp, _, rfl⟩) (by decide) (by decide) ?_
                            refine ⟨?_, rfl, e0⟩
                            simp [own_first, hc30, hc31, hc32, hc33, hc34, hc35, hc36, hc37, hc38, hc39, hc40, hc41, hc42]
                        · -- pc 94: f
                          refine own_bipush X0 hx hby d2_97 rfl (77 : Int32) rfl ?_
                          refine own_ret X0 hx hby hret hlk d2_99 (.int (77 : Int32)) rfl (Or.inl ⟨rfl, by simp, _, rfl⟩) (by decide) (by decide) ?_
                          refine ⟨?_, rfl, e0⟩
                          simp [own_first, hc30, hc31, hc32, hc33, hc34, hc35, hc36, hc37, hc38, hc39, hc40, hc41]
                      · -- pc 85: f
                        refine own_bipush X0 hx hby d2_88 rfl (81 : Int32) rfl ?_
                        refine own_ret X0 hx hby hret hlk d2_90 (.int (81 : Int32)) rfl (Or.inl ⟨rfl, by simp, _, rfl⟩) (by decide) (by decide) ?_
                        refine ⟨?_, rfl, e0⟩
                        simp [own_first, hc30, hc31, hc32, hc33, hc34, hc35, hc36, hc37, hc38, hc39, hc40]
                    · -- pc 76: f
                      refine own_bipush X0 hx hby d2_79 rfl (107 : Int32) rfl ?_
                      refine own_ret X0 hx hby hret hlk d2_81 (.int (107 : Int32)) rfl (Or.inl ⟨rfl, by simp, _, rfl⟩) (by decide) (by decide) ?_
                      refine ⟨?_, rfl, e0⟩
                      simp [own_first, hc30, hc31, hc32, hc33, hc34, hc35, hc36, hc37, hc38, hc39]
                  · -- pc 67: f
                    refine own_bipush X0 hx hby d2_70 rfl (117 : Int32) rfl ?_
                    refine own_ret X0 hx hby hret hlk d2_72 (.int (117 : Int32)) rfl (Or.inl ⟨rfl, by simp, _, rfl⟩) (by decide) (by decide) ?_
                    refine ⟨?_, rfl, e0⟩
                    simp [own_first, hc30, hc31, hc32, hc33, hc34, hc35, hc36, hc37, hc38]
                · -- pc 58: f
                  refine own_bipush X0 hx hby d2_61 rfl (83 : Int32) rfl ?_
                  refine own_ret X0 hx hby hret hlk d2_63 (.int (83 : Int32)) rfl (Or.inl ⟨rfl, by simp, _, rfl⟩) (by decide) (by decide) ?_
                  refine ⟨?_, rfl, e0⟩
                  simp [own_first, hc30, hc31, hc32, hc33, hc34, hc35, hc36, hc37]
              · -- pc 49: f
                refine own_bipush X0 hx hby d2_52 rfl (99 : Int32) rfl ?_
                refine own_ret X0 hx hby hret hlk d2_54 (.int (99 : Int32)) rfl (Or.inl ⟨rfl, by simp, _, rfl⟩) (by decide) (by decide) ?_
                refine ⟨?_, rfl, e0⟩
                simp [own_first, hc30, hc31, hc32, hc33, hc34, hc35, hc36]
            · -- pc 40: f
              refine own_bipush X0 hx hby d2_43 rfl (101 : Int32) rfl ?_
              refine own_ret X0 hx hby hret hlk d2_45 (.int (101 : Int32)) rfl (Or.inl ⟨rfl, by simp, _, rfl⟩) (by decide) (by decide) ?_
              refine ⟨?_, rfl, e0⟩
              simp [own_first, hc30, hc31, hc32, hc33, hc34, hc35]
          · -- pc 32: f
            refine own_bipush X0 hx hby d2_35 rfl (115 : Int32) rfl ?_
            refine own_ret X0 hx hby hret hlk d2_37 (.int (115 : Int32)) rfl (Or.inl ⟨rfl, by simp, _, rfl⟩) (by decide) (by decide) ?_
            refine ⟨?_, rfl, e0⟩
            simp [own_first, hc30, hc31, hc32, hc33, hc34]
        · -- pc 24: f
          refine own_bipush X0 hx hby d2_27 rfl (118 : Int32) rfl ?_
          refine own_ret X0 hx hby hret hlk d2_29 (.int (118 : Int32)) rfl (Or.inl ⟨rfl, by simp, _, rfl⟩) (by decide) (by decide) ?_
          refine ⟨?_, rfl, e0⟩
          simp [own_first, hc30, hc31, hc32, hc33]
      · -- pc 16: f
        refine own_bipush X0 hx hby d2_19 rfl (100 : Int32) rfl ?_
        refine own_ret X0 hx hby hret hlk d2_21 (.int (100 : Int32)) rfl (Or.inl ⟨rfl, by simp, _, rfl⟩) (by decide) (by decide) ?_
        refine ⟨?_, rfl, e0⟩
        simp [own_first, hc30, hc31, hc32]
    · -- pc 8: f
      refine own_bipush X0 hx hby d2_11 rfl (110 : Int32) rfl ?_
      refine own_ret X0 hx hby hret hlk d2_13 (.int (110 : Int32)) rfl (Or.inl ⟨rfl, by simp, _, rfl⟩) (by decide) (by decide) ?_
      refine ⟨?_, rfl, e0⟩
      simp [own_first, hc30, hc31]
  · -- pc 1: f
    refine own_iconst X0 hx hby d2_4 rfl (0 : Int32) rfl ?_
    refine own_ret X0 hx hby hret hlk d2_5 (.int (0 : Int32)) rfl (Or.inl ⟨rfl, by simp, _, rfl⟩) (by decide) (by decide) ?_
    refine ⟨?_, rfl, e0⟩
    simp [own_first, hc30]
set_option maxRecDepth 65536 in
set_option maxHeartbeats 40000000 in
theorem rm3_0 (l : Launch) (Z : State) (a0 : Array Value) (hw : ∀ d ∈ tables_1, d.before a0 Z = true) (x0 : Addr) (x1 : Addr) (h0 : Heap) (n0 : Nat) {kr : ClassId} {f : Int32} (O : Old Z n0 h0) (V : Arv Z h0 x1 kr .byte (0 : Int32) [] (.int 0)) (F : Fld Z h0 x0 "com/example/lyrebird/lyrebird/store/Prefix" "first" "B" (.int f)) (hf1 : nar .byte f = f) (hf2 : fits .byte (.int f) = true) :
    OwnMet l Z (⟨"com/example/lyrebird/lyrebird/store/Prefix", "key", "([B)[B"⟩ : MethodName) prog_10_method_7_code 3 (some (.array .byte)) [] ({ frames := 1, cells := 1, slots := 1, locals := 40 } : Room) #[(.ref x0), (.ref x1)] h0 (fun v h L => ∃ b k, v = some (.ref b) ∧ Fr n0 L ∧ Keep h0 h [] ∧ h0.size ≤ b ∧ n0 ≤ b ∧ Arv Z h b k .byte (1 : Int32) [(.int f)] (.int 0)) := by
  refine own_body (plainFor_of_name pn_1) (fun m => ef_3_0 m x0 x1) ?_
  intro p e s m below meth c s₁ X0 hx hby hml hown hnm hret hlk hZ e0
  replace hown : s.vm.findClass "com/example/lyrebird/lyrebird/store/Prefix" = some m.cls := hown
  replace hml : c.maxLocals = 3 := hml
  have N0 := Fr.nil n0
  show Ends p.tables e below _ (s₁.setTop (mkF m 0 #[.val (.ref x0), .val (.ref x1), .unset] []))
  refine own_aloadN X0 hx hby d3_0 rfl rfl rfl ?_
  refine own_arraylength X0 hx hby hZ e0 V d3_1 rfl ?_
  refine own_iconst X0 hx hby d3_2 rfl (1 : Int32) rfl ?_
  refine own_iadd X0 hx hby d3_3 rfl ?_
  show Ends p.tables e below _ (s₁.setTop (mkF m 4 #[.val (.ref x0), .val (.ref x1), .unset] [(.int (1 : Int32))]))
  refine own_newarray X0 hx hby hZ (aty := .byte) (hw _ tw_11) e0 (by decide) 1 (by decide) (by decide) (by decide) (by decide) .byte rfl [(.int (0 : Int32))] rfl d3_4 rfl (fun T44 h44 b44 k44 X44 e44 g44 E44 V44 => ?_)
  have ge_b44 : n0 ≤ b44 := own_ge O g44
  have sz_b44 : h0.size ≤ b44 := Nat.le_trans (Keep.refl h0 []).1 (Nat.le_of_eq g44.symm)
  have ne_x1_b44 : x1 ≠ b44 := own_lt V.lt g44
  have ne_x0_b44 : x0 ≠ b44 := own_lt F.lt g44
  refine own_astoreN X44 hx hby d3_6 rfl #[.val (.ref x0), .val (.ref x1), .val (.ref b44)] rfl rfl ?_
  refine own_aloadN X44 hx hby d3_7 rfl rfl rfl ?_
  refine own_iconst X44 hx hby d3_8 rfl (0 : Int32) rfl ?_
  refine own_aloadN X44 hx hby d3_9 rfl rfl rfl ?_
  have f45 := (F.ext E44)
  refine own_getfield X44 hx hby hZ hown (host := "") (Or.inl (hw _ tw_17)) Via.refl e44 f45 d3_10 rfl (fun T46 X46 e46 => ?_)
  refine own_bastore X46 hx hby hZ f hf1 e46 V44 (by decide) 0 rfl (show 0 < 1 by decide) [(.int f)] rfl hf2 N0 ge_b44 d3_13 rfl (fun T47 h47 L47 X47 e47 W47 V47 N47 => ?_)
  refine own_aloadN X47 hx hby d3_14 rfl rfl rfl ?_
  refine own_iconst X47 hx hby d3_15 rfl (0 : Int32) rfl ?_
  refine own_aloadN X47 hx hby d3_16 rfl rfl rfl ?_
  refine own_iconst X47 hx hby d3_17 rfl (1 : Int32) rfl ?_
  refine own_aloadN X47 hx hby d3_18 rfl rfl rfl ?_
  have f48 := ((V.ext E44).other W47 ne_x1_b44)
  refine own_arraylength X47 hx hby hZ e47 f48 d3_19 rfl ?_
  refine own_arraycopy X47 hx hby hZ (us := []) hown (hw _ tw_19) (hw _ tw_22) (hw _ tw_20) (hw _ tw_21) e47 f48 V47 (Or.inl ⟨rfl, rfl⟩) (by decide) (by decide) (by decide) (by decide) (by decide) rfl (show 1 ≤ 1 by decide) N47 ge_b44 [(.int f)] rfl (by rw [hml]; rfl) (by decide) (W := 0) (Nat.le_refl _) (by decide) d3_20 rfl (fun T49 h49 L49 X49 e49 N49 K49 V49 => ?_)
  refine own_aloadN X49 hx hby d3_23 rfl rfl rfl ?_
  refine own_ret X49 hx hby hret hlk d3_24 (.ref b44) rfl (Or.inr (Or.inr ⟨rfl, rfl, rfl⟩)) (by decide) (by decide) ?_
  have f50 := ((((Keep.refl h0 []).ext E44).wr W47 (Or.inr sz_b44)).trans K49 (allS (Or.inr sz_b44) all0))
  rw [e49]
  exact ⟨b44, _, rfl, N49, f50, sz_b44, ge_b44, V49⟩
set_option maxRecDepth 65536 in
set_option maxHeartbeats 40000000 in
theorem rm3_1 (l : Launch) (Z : State) (a0 : Array Value) (hw : ∀ d ∈ tables_1, d.before a0 Z = true) (x0 : Addr) (x1 : Addr) (h0 : Heap) (n0 : Nat) {kr : ClassId} {y0 : Int32} {f : Int32} (O : Old Z n0 h0) (V : Arv Z h0 x1 kr .byte (1 : Int32) [(.int y0)] (.int 0)) (F : Fld Z h0 x0 "com/example/lyrebird/lyrebird/store/Prefix" "first" "B" (.int f)) (hf1 : nar .byte f = f) (hf2 : fits .byte (.int f) = true) :
    OwnMet l Z (⟨"com/example/lyrebird/lyrebird/store/Prefix", "key", "([B)[B"⟩ : MethodName) prog_10_method_7_code 3 (some (.array .byte)) [] ({ frames := 1, cells := 1, slots := 2, locals := 40 } : Room) #[(.ref x0), (.ref x1)] h0 (fun v h L => ∃ b k, v = some (.ref b) ∧ Fr n0 L ∧ Keep h0 h [] ∧ h0.size ≤ b ∧ n0 ≤ b ∧ Arv Z h b k .byte (2 : Int32) [(.int f), (.int y0)] (.int 0)) := by
  refine own_body (plainFor_of_name pn_1) (fun m => ef_3_1 m x0 x1) ?_
  intro p e s m below meth c s₁ X0 hx hby hml hown hnm hret hlk hZ e0
  replace hown : s.vm.findClass "com/example/lyrebird/lyrebird/store/Prefix" = some m.cls := hown
  replace hml : c.maxLocals = 3 := hml
  have N0 := Fr.nil n0
  show Ends p.tables e below _ (s₁.setTop (mkF m 0 #[.val (.ref x0), .val (.ref x1), .unset] []))
  refine own_aloadN X0 hx hby d3_0 rfl rfl rfl ?_
  refine own_arraylength X0 hx hby hZ e0 V d3_1 rfl ?_
  refine own_iconst X0 hx hby d3_2 rfl (1 : Int32) rfl ?_
  refine own_iadd X0 hx hby d3_3 rfl ?_
  show Ends p.tables e below _ (s₁.setTop (mkF m 4 #[.val (.ref x0), .val (.ref x1), .unset] [(.int (2 : Int32))]))
  refine own_newarray X0 hx hby hZ (aty := .byte) (hw _ tw_11) e0 (by decide) 2 (by decide) (by decide) (by decide) (by decide) .byte rfl [(.int (0 : Int32)), (.int (0 : Int32))] rfl d3_4 rfl (fun T51 h51 b51 k51 X51 e51 g51 E51 V51 => ?_)
  have ge_b51 : n0 ≤ b51 := own_ge O g51
  have sz_b51 : h0.size ≤ b51 := Nat.le_trans (Keep.refl h0 []).1 (Nat.le_of_eq g51.symm)
  have ne_x1_b51 : x1 ≠ b51 := own_lt V.lt g51
  have ne_x0_b51 : x0 ≠ b51 := own_lt F.lt g51
  refine own_astoreN X51 hx hby d3_6 rfl #[.val (.ref x0), .val (.ref x1), .val (.ref b51)] rfl rfl ?_
  refine own_aloadN X51 hx hby d3_7 rfl rfl rfl ?_
  refine own_iconst X51 hx hby d3_8 rfl (0 : Int32) rfl ?_
  refine own_aloadN X51 hx hby d3_9 rfl rfl rfl ?_
  have f52 := (F.ext E51)
  refine own_getfield X51 hx hby hZ hown (host := "") (Or.inl (hw _ tw_17)) Via.refl e51 f52 d3_10 rfl (fun T53 X53 e53 => ?_)
  refine own_bastore X53 hx hby hZ f hf1 e53 V51 (by decide) 0 rfl (show 0 < 2 by decide) [(.int f), (.int (0 : Int32))] rfl hf2 N0 ge_b51 d3_13 rfl (fun T54 h54 L54 X54 e54 W54 V54 N54 => ?_)
  refine own_aloadN X54 hx hby d3_14 rfl rfl rfl ?_
  refine own_iconst X54 hx hby d3_15 rfl (0 : Int32) rfl ?_
  refine own_aloadN X54 hx hby d3_16 rfl rfl rfl ?_
  refine own_iconst X54 hx hby d3_17 rfl (1 : Int32) rfl ?_
  refine own_aloadN X54 hx hby d3_18 rfl rfl rfl ?_
  have f55 := ((V.ext E51).other W54 ne_x1_b51)
  refine own_arraylength X54 hx hby hZ e54 f55 d3_19 rfl ?_
  refine own_arraycopy X54 hx hby hZ (us := [(.int y0)]) hown (hw _ tw_19) (hw _ tw_22) (hw _ tw_20) (hw _ tw_21) e54 f55 V54 (Or.inl ⟨rfl, rfl⟩) (by decide) (by decide) (by decide) (by decide) (by decide) rfl (show 2 ≤ 2 by decide) N54 ge_b51 [(.int f), (.int y0)] rfl (by rw [hml]; rfl) (by decide) (W := 0) (Nat.le_refl _) (by decide) d3_20 rfl (fun T56 h56 L56 X56 e56 N56 K56 V56 => ?_)
  refine own_aloadN X56 hx hby d3_23 rfl rfl rfl ?_
  refine own_ret X56 hx hby hret hlk d3_24 (.ref b51) rfl (Or.inr (Or.inr ⟨rfl, rfl, rfl⟩)) (by decide) (by decide) ?_
  have f57 := ((((Keep.refl h0 []).ext E51).wr W54 (Or.inr sz_b51)).trans K56 (allS (Or.inr sz_b51) all0))
  rw [e56]
  exact ⟨b51, _, rfl, N56, f57, sz_b51, ge_b51, V56⟩
set_option maxRecDepth 65536 in
set_option maxHeartbeats 40000000 in
theorem rm3_2 (l : Launch) (Z : State) (a0 : Array Value) (hw : ∀ d ∈ tables_1, d.before a0 Z = true) (x0 : Addr) (x1 : Addr) (h0 : Heap) (n0 : Nat) {kr : ClassId} {y0 y1 : Int32} {f : Int32} (O : Old Z n0 h0) (V : Arv Z h0 x1 kr .byte (2 : Int32) [(.int y0), (.int y1)] (.int 0)) (F : Fld Z h0 x0 "com/example/lyrebird/lyrebird/store/Prefix" "first" "B" (.int f)) (hf1 : nar .byte f = f) (hf2 : fits .byte (.int f) = true) :
    OwnMet l Z (⟨"com/example/lyrebird/lyrebird/store/Prefix", "key", "([B)[B"⟩ : MethodName) prog_10_method_7_code 3 (some (.array .byte)) [] ({ frames := 1, cells := 1, slots := 3, locals := 40 } : Room) #[(.ref x0), (.ref x1)] h0 (fun v h L => ∃ b k, v = some (.ref b) ∧ Fr n0 L ∧ Keep h0 h [] ∧ h0.size ≤ b ∧ n0 ≤ b ∧ Arv Z h b k .byte (3 : Int32) [(.int f), (.int y0), (.int y1)] (.int 0)) := by
  refine own_body (plainFor_of_name pn_1) (fun m => ef_3_2 m x0 x1) ?_
  intro p e s m below meth c s₁ X0 hx hby hml hown hnm hret hlk hZ e0
  replace hown : s.vm.findClass "com/example/lyrebird/lyrebird/store/Prefix" = some m.cls := hown
  replace hml : c.maxLocals = 3 := hml
  have N0 := Fr.nil n0
  show Ends p.tables e below _ (s₁.setTop (mkF m 0 #[.val (.ref x0), .val (.ref x1), .unset] []))
  refine own_aloadN X0 hx hby d3_0 rfl rfl rfl ?_
  refine own_arraylength X0 hx hby hZ e0 V d3_1 rfl ?_
  refine own_iconst X0 hx hby d3_2 rfl (1 : Int32) rfl ?_
  refine own_iadd X0 hx hby d3_3 rfl ?_
  show Ends p.tables e below _ (s₁.setTop (mkF m 4 #[.val (.ref x0), .val (.ref x1), .unset] [(.int (3 : Int32))]))
  refine own_newarray X0 hx hby hZ (aty := .byte) (hw _ tw_11) e0 (by decide) 3 (by decide) (by decide) (by decide) (by decide) .byte rfl [(.int (0 : Int32)), (.int (0 : Int32)), (.int (0 : Int32))] rfl d3_4 rfl (fun T58 h58 b58 k58 X58 e58 g58 E58 V58 => ?_)
  have ge_b58 : n0 ≤ b58 := own_ge O g58
  have sz_b58 : h0.size ≤ b58 := Nat.le_trans (Keep.refl h0 []).1 (Nat.le_of_eq g58.symm)
  have ne_x1_b58 : x1 ≠ b58 := own_lt V.lt g58
  have ne_x0_b58 : x0 ≠ b58 := own_lt F.lt g58
  refine own_astoreN X58 hx hby d3_6 rfl #[.val (.ref x0), .val (.ref x1), .val (.ref b58)] rfl rfl ?_
  refine own_aloadN X58 hx hby d3_7 rfl rfl rfl ?_
  refine own_iconst X58 hx hby d3_8 rfl (0 : Int32) rfl ?_
  refine own_aloadN X58 hx hby d3_9 rfl rfl rfl ?_
  have f59 := (F.ext E58)
  refine own_getfield X58 hx hby hZ hown (host := "") (Or.inl (hw _ tw_17)) Via.refl e58 f59 d3_10 rfl (fun T60 X60 e60 => ?_)
  refine own_bastore X60 hx hby hZ f hf1 e60 V58 (by decide) 0 rfl (show 0 < 3 by decide) [(.int f), (.int (0 : Int32)), (.int (0 : Int32))] rfl hf2 N0 ge_b58 d3_13 rfl (fun T61 h61 L61 X61 e61 W61 V61 N61 => ?_)
  refine own_aloadN X61 hx hby d3_14 rfl rfl rfl ?_
  refine own_iconst X61 hx hby d3_15 rfl (0 : Int32) rfl ?_
  refine own_aloadN X61 hx hby d3_16 rfl rfl rfl ?_
  refine own_iconst X61 hx hby d3_17 rfl (1 : Int32) rfl ?_
  refine own_aloadN X61 hx hby d3_18 rfl rfl rfl ?_
  have f62 := ((V.ext E58).other W61 ne_x1_b58)
  refine own_arraylength X61 hx hby hZ e61 f62 d3_19 rfl ?_
  refine own_arraycopy X61 hx hby hZ (us := [(.int y0), (.int y1)]) hown (hw _ tw_19) (hw _ tw_22) (hw _ tw_20) (hw _ tw_21) e61 f62 V61 (Or.inl ⟨rfl, rfl⟩) (by decide) (by decide) (by decide) (by decide) (by decide) rfl (show 3 ≤ 3 by decide) N61 ge_b58 [(.int f), (.int y0), (.int y1)] rfl (by rw [hml]; rfl) (by decide) (W := 0) (Nat.le_refl _) (by decide) d3_20 rfl (fun T63 h63 L63 X63 e63 N63 K63 V63 => ?_)
  refine own_aloadN X63 hx hby d3_23 rfl rfl rfl ?_
  refine own_ret X63 hx hby hret hlk d3_24 (.ref b58) rfl (Or.inr (Or.inr ⟨rfl, rfl, rfl⟩)) (by decide) (by decide) ?_
  have f64 := ((((Keep.refl h0 []).ext E58).wr W61 (Or.inr sz_b58)).trans K63 (allS (Or.inr sz_b58) all0))
  rw [e63]
  exact ⟨b58, _, rfl, N63, f64, sz_b58, ge_b58, V63⟩
set_option maxRecDepth 65536 in
set_option maxHeartbeats 40000000 in
theorem rm3_3 (l : Launch) (Z : State) (a0 : Array Value) (hw : ∀ d ∈ tables_1, d.before a0 Z = true) (x0 : Addr) (x1 : Addr) (h0 : Heap) (n0 : Nat) {kr : ClassId} {y0 y1 y2 : Int32} {f : Int32} (O : Old Z n0 h0) (V : Arv Z h0 x1 kr .byte (3 : Int32) [(.int y0), (.int y1), (.int y2)] (.int 0)) (F : Fld Z h0 x0 "com/example/lyrebird/lyrebird/store/Prefix" "first" "B" (.int f)) (hf1 : nar .byte f = f) (hf2 : fits .byte (.int f) = true) :
    OwnMet l Z (⟨"com/example/lyrebird/lyrebird/store/Prefix", "key", "([B)[B"⟩ : MethodName) prog_10_method_7_code 3 (some (.array .byte)) [] ({ frames := 1, cells := 1, slots := 4, locals := 40 } : Room) #[(.ref x0), (.ref x1)] h0 (fun v h L => ∃ b k, v = some (.ref b) ∧ Fr n0 L ∧ Keep h0 h [] ∧ h0.size ≤ b ∧ n0 ≤ b ∧ Arv Z h b k .byte (4 : Int32) [(.int f), (.int y0), (.int y1), (.int y2)] (.int 0)) := by
  refine own_body (plainFor_of_name pn_1) (fun m => ef_3_3 m x0 x1) ?_
  intro p e s m below meth c s₁ X0 hx hby hml hown hnm hret hlk hZ e0
  replace hown : s.vm.findClass "com/example/lyrebird/lyrebird/store/Prefix" = some m.cls := hown
  replace hml : c.maxLocals = 3 := hml
  have N0 := Fr.nil n0
  show Ends p.tables e below _ (s₁.setTop (mkF m 0 #[.val (.ref x0), .val (.ref x1), .unset] []))
  refine own_aloadN X0 hx hby d3_0 rfl rfl rfl ?_
  refine own_arraylength X0 hx hby hZ e0 V d3_1 rfl ?_
  refine own_iconst X0 hx hby d3_2 rfl (1 : Int32) rfl ?_
  refine own_iadd X0 hx hby d3_3 rfl ?_
  show Ends p.tables e below _ (s₁.setTop (mkF m 4 #[.val (.ref x0), .val (.ref x1), .unset] [(.int (4 : Int32))]))
  refine own_newarray X0 hx hby hZ (aty := .byte) (hw _ tw_11) e0 (by decide) 4 (by decide) (by decide) (by decide) (by decide) .byte rfl [(.int (0 : Int32)), (.int (0 : Int32)), (.int (0 : Int32)), (.int (0 : Int32))] rfl d3_4 rfl (fun T65 h65 b65 k65 X65 e65 g65 E65 V65 => ?_)
  have ge_b65 : n0 ≤ b65 := own_ge O g65
  have sz_b65 : h0.size ≤ b65 := Nat.le_trans (Keep.refl h0 []).1 (Nat.le_of_eq g65.symm)
  have ne_x1_b65 : x1 ≠ b65 := own_lt V.lt g65
  have ne_x0_b65 : x0 ≠ b65 := own_lt F.lt g65
  refine own_astoreN X65 hx hby d3_6 rfl #[.val (.ref x0), .val (.ref x1), .val (.ref b65)] rfl rfl ?_
  refine own_aloadN X65 hx hby d3_7 rfl rfl rfl ?_
  refine own_iconst X65 hx hby d3_8 rfl (0 : Int32) rfl ?_
  refine own_aloadN X65 hx hby d3_9 rfl rfl rfl ?_
  have f66 := (F.ext E65)
  refine own_getfield X65 hx hby hZ hown (host := "") (Or.inl (hw _ tw_17)) Via.refl e65 f66 d3_10 rfl (fun T67 X67 e67 => ?_)
  refine own_bastore X67 hx hby hZ f hf1 e67 V65 (by decide) 0 rfl (show 0 < 4 by decide) [(.int f), (.int (0 : Int32)), (.int (0 : Int32)), (.int (0 : Int32))] rfl hf2 N0 ge_b65 d3_13 rfl (fun T68 h68 L68 X68 e68 W68 V68 N68 => ?_)
  refine own_aloadN X68 hx hby d3_14 rfl rfl rfl ?_
  refine own_iconst X68 hx hby d3_15 rfl (0 : Int32) rfl ?_
  refine own_aloadN X68 hx hby d3_16 rfl rfl rfl ?_
  refine own_iconst X68 hx hby d3_17 rfl (1 : Int32) rfl ?_
  refine own_aloadN X68 hx hby d3_18 rfl rfl rfl ?_
  have f69 := ((V.ext E65).other W68 ne_x1_b65)
  refine own_arraylength X68 hx hby hZ e68 f69 d3_19 rfl ?_
  refine own_arraycopy X68 hx hby hZ (us := [(.int y0), (.int y1), (.int y2)]) hown (hw _ tw_19) (hw _ tw_22) (hw _ tw_20) (hw _ tw_21) e68 f69 V68 (Or.inl ⟨rfl, rfl⟩) (by decide) (by decide) (by decide) (by decide) (by decide) rfl (show 4 ≤ 4 by decide) N68 ge_b65 [(.int f), (.int y0), (.int y1), (.int y2)] rfl (by rw [hml]; rfl) (by decide) (W := 0) (Nat.le_refl _) (by decide) d3_20 rfl (fun T70 h70 L70 X70 e70 N70 K70 V70 => ?_)
  refine own_aloadN X70 hx hby d3_23 rfl rfl rfl ?_
  refine own_ret X70 hx hby hret hlk d3_24 (.ref b65) rfl (Or.inr (Or.inr ⟨rfl, rfl, rfl⟩)) (by decide) (by decide) ?_
  have f71 := ((((Keep.refl h0 []).ext E65).wr W68 (Or.inr sz_b65)).trans K70 (allS (Or.inr sz_b65) all0))
  rw [e70]
  exact ⟨b65, _, rfl, N70, f71, sz_b65, ge_b65, V70⟩
set_option maxRecDepth 65536 in
set_option maxHeartbeats 40000000 in
theorem rm3_4 (l : Launch) (Z : State) (a0 : Array Value) (hw : ∀ d ∈ tables_1, d.before a0 Z = true) (x0 : Addr) (x1 : Addr) (h0 : Heap) (n0 : Nat) {kr : ClassId} {y0 y1 y2 y3 : Int32} {f : Int32} (O : Old Z n0 h0) (V : Arv Z h0 x1 kr .byte (4 : Int32) [(.int y0), (.int y1), (.int y2), (.int y3)] (.int 0)) (F : Fld Z h0 x0 "com/example/lyrebird/lyrebird/store/Prefix" "first" "B" (.int f)) (hf1 : nar .byte f = f) (hf2 : fits .byte (.int f) = true) :
    OwnMet l Z (⟨"com/example/lyrebird/lyrebird/store/Prefix", "key", "([B)[B"⟩ : MethodName) prog_10_method_7_code 3 (some (.array .byte)) [] ({ frames := 1, cells := 1, slots := 5, locals := 40 } : Room) #[(.ref x0), (.ref x1)] h0 (fun v h L => ∃ b k, v = some (.ref b) ∧ Fr n0 L ∧ Keep h0 h [] ∧ h0.size ≤ b ∧ n0 ≤ b ∧ Arv Z h b k .byte (5 : Int32) [(.int f), (.int y0), (.int y1), (.int y2), (.int y3)] (.int 0)) := by
  refine own_body (plainFor_of_name pn_1) (fun m => ef_3_4 m x0 x1) ?_
  intro p e s m below meth c s₁ X0 hx hby hml hown hnm hret hlk hZ e0
  replace hown : s.vm.findClass "com/example/lyrebird/lyrebird/store/Prefix" = some m.cls := hown
  replace hml : c.maxLocals = 3 := hml
  have N0 := Fr.nil n0
  show Ends p.tables e below _ (s₁.setTop (mkF m 0 #[.val (.ref x0), .val (.ref x1), .unset] []))
  refine own_aloadN X0 hx hby d3_0 rfl rfl rfl ?_
  refine own_arraylength X0 hx hby hZ e0 V d3_1 rfl ?_
  refine own_iconst X0 hx hby d3_2 rfl (1 : Int32) rfl ?_
  refine own_iadd X0 hx hby d3_3 rfl ?_
  show Ends p.tables e below _ (s₁.setTop (mkF m 4 #[.val (.ref x0), .val (.ref x1), .unset] [(.int (5 : Int32))]))
  refine own_newarray X0 hx hby hZ (aty := .byte) (hw _ tw_11) e0 (by decide) 5 (by decide) (by decide) (by decide) (by decide) .byte rfl [(.int (0 : Int32)), (.int (0 : Int32)), (.int (0 : Int32)), (.int (0 : Int32)), (.int (0 : Int32))] rfl d3_4 rfl (fun T72 h72 b72 k72 X72 e72 g72 E72 V72 => ?_)
  have ge_b72 : n0 ≤ b72 := own_ge O g72
  have sz_b72 : h0.size ≤ b72 := Nat.le_trans (Keep.refl h0 []).1 (Nat.le_of_eq g72.symm)
  have ne_x1_b72 : x1 ≠ b72 := own_lt V.lt g72
  have ne_x0_b72 : x0 ≠ b72 := own_lt F.lt g72
  refine own_astoreN X72 hx hby d3_6 rfl #[.val (.ref x0), .val (.ref x1), .val (.ref b72)] rfl rfl ?_
  refine own_aloadN X72 hx hby d3_7 rfl rfl rfl ?_
  refine own_iconst X72 hx hby d3_8 rfl (0 : Int32) rfl ?_
  refine own_aloadN X72 hx hby d3_9 rfl rfl rfl ?_
  have f73 := (F.ext E72)
  refine own_getfield X72 hx hby hZ hown (host := "") (Or.inl (hw _ tw_17)) Via.refl e72 f73 d3_10 rfl (fun T74 X74 e74 => ?_)
  refine own_bastore X74 hx hby hZ f hf1 e74 V72 (by decide) 0 rfl (show 0 < 5 by decide) [(.int f), (.int (0 : Int32)), (.int (0 : Int32)), (.int (0 : Int32)), (.int (0 : Int32))] rfl hf2 N0 ge_b72 d3_13 rfl (fun T75 h75 L75 X75 e75 W75 V75 N75 => ?_)
  refine own_aloadN X75 hx hby d3_14 rfl rfl rfl ?_
  refine own_iconst X75 hx hby d3_15 rfl (0 : Int32) rfl ?_
  refine own_aloadN X75 hx hby d3_16 rfl rfl rfl ?_
  refine own_iconst X75 hx hby d3_17 rfl (1 : Int32) rfl ?_
  refine own_aloadN X75 hx hby d3_18 rfl rfl rfl ?_
  have f76 := ((V.ext E72).other W75 ne_x1_b72)
  refine own_arraylength X75 hx hby hZ e75 f76 d3_19 rfl ?_
  refine own_arraycopy X75 hx hby hZ (us := [(.int y0), (.int y1), (.int y2), (.int y3)]) hown (hw _ tw_19) (hw _ tw_22) (hw _ tw_20) (hw _ tw_21) e75 f76 V75 (Or.inl ⟨rfl, rfl⟩) (by decide) (by decide) (by decide) (by decide) (by decide) rfl (show 5 ≤ 5 by decide) N75 ge_b72 [(.int f), (.int y0), (.int y1), (.int y2), (.int y3)] rfl (by rw [hml]; rfl) (by decide) (W := 0) (Nat.le_refl _) (by decide) d3_20 rfl (fun T77 h77 L77 X77 e77 N77 K77 V77 => ?_)
  refine own_aloadN X77 hx hby d3_23 rfl rfl rfl ?_
  refine own_ret X77 hx hby hret hlk d3_24 (.ref b72) rfl (Or.inr (Or.inr ⟨rfl, rfl, rfl⟩)) (by decide) (by decide) ?_
  have f78 := ((((Keep.refl h0 []).ext E72).wr W75 (Or.inr sz_b72)).trans K77 (allS (Or.inr sz_b72) all0))
  rw [e77]
  exact ⟨b72, _, rfl, N77, f78, sz_b72, ge_b72, V77⟩
set_option maxRecDepth 65536 in
set_option maxHeartbeats 40000000 in
theorem rm0 (l : Launch) (Z : State) (a0 : Array Value) (hw : ∀ d ∈ tables_1, d.before a0 Z = true) (x0 : Int32) (x1 : Int32) (x2 : Int32) (x3 : Int32) (x4 : Int32) (x5 : Int32) (h0 : Heap) (n0 : Nat) {a_PROBE a_LAST_VERSION a_VERSION a_LAST_MESSAGE a_EPHEMERAL a_MESSAGE_END a_CHUNK a_QUEUE a_SESSION a_DELETED_NODE a_CLAIM a_NODE a_COUNTER a_MESSAGE a_UPLOAD : Addr} (G : OwnG Z a_PROBE a_LAST_VERSION a_VERSION a_LAST_MESSAGE a_EPHEMERAL a_MESSAGE_END a_CHUNK a_QUEUE a_SESSION a_DELETED_NODE a_CLAIM a_NODE a_COUNTER a_MESSAGE a_UPLOAD) (O : Old Z n0 h0) :
    OwnMet l Z x code maxLocals ret tables_1 room_1 #[(.int x0), (.int x1), (.int x2), (.int x3), (.int x4), (.int x5)] h0 (fun v h L => v = some (.int 1) ∧ Fr n0 L) := by
  refine own_body (plainFor_of_name pn_0) (fun m => ef_0 m x0 x1 x2 x3 x4 x5) ?_
  intro p e s m below meth c s₁ X0 hx hby hml hown hnm hret hlk hZ e0
  replace hown : s.vm.findClass "com/example/lyrebird/lyrebird/store/PrefixKeyPinLaw" = some m.cls := hown
  replace hml : c.maxLocals = 12 := hml
  have N0 := Fr.nil n0
  show Ends p.tables e below _ (s₁.setTop (mkF m 0 #[.val (.int x0), .val (.int x1), .val (.int x2), .val (.int x3), .val (.int x4), .val (.int x5), .unset, .unset, .unset, .unset, .unset, .unset] []))
  refine own_iloadN X0 hx hby at_0 rfl rfl ?_
  refine own_ldcI X0 hx hby hZ hown (hw _ tw_0) at_1 rfl ?_
  refine own_iand X0 hx hby at_3 rfl ?_
  refine own_bipush X0 hx hby at_4 rfl (15 : Int32) rfl ?_
  refine own_irem X0 hx hby at_6 rfl (by decide) ?_
  refine own_istore X0 hx hby at_7 rfl #[.val (.int x0), .val (.int x1), .val (.int x2), .val (.int x3), .val (.int x4), .val (.int x5), .val (.int ((x0 &&& (2147483647 : Int32)) % (15 : Int32))), .unset, .unset, .unset, .unset, .unset] rfl ?_
  refine own_iload X0 hx hby at_9 rfl rfl ?_
  refine own_static X0 hx hby hZ (argsL := [(.int ((x0 &&& (2147483647 : Int32)) % (15 : Int32)))]) (rest := []) hown (hw _ tw_1) (hw _ tw_2) (hw _ tw_3) (hw _ tw_4) (by decide) (rm1 l Z a0 hw ((x0 &&& (2147483647 : Int32)) % (15 : Int32)) h0 G O.2) e0 (by rw [hml]; rfl) pd_0 rfl (by decide) (W := 0) (Nat.le_refl _) (by decide) (by decide) (by decide) at_11 rfl rfl (fun v79 T79 L79 X79 hQ79 => ?_)
  obtain ⟨r79, rfl, rfl, e79, A79, F79⟩ := hQ79
  show Ends p.tables e below _ (T79.setTop (mkF m 14 #[.val (.int x0), .val (.int x1), .val (.int x2), .val (.int x3), .val (.int x4), .val (.int x5), .val (.int ((x0 &&& (2147483647 : Int32)) % (15 : Int32))), .unset, .unset, .unset, .unset, .unset] [(.ref r79)]))
  refine own_astore X79 hx hby at_14 rfl #[.val (.int x0), .val (.int x1), .val (.int x2), .val (.int x3), .val (.int x4), .val (.int x5), .val (.int ((x0 &&& (2147483647 : Int32)) % (15 : Int32))), .val (.ref r79), .unset, .unset, .unset, .unset] rfl rfl ?_
  refine own_iload X79 hx hby at_16 rfl rfl ?_
  refine own_static X79 hx hby hZ (argsL := [(.int ((x0 &&& (2147483647 : Int32)) % (15 : Int32)))]) (rest := []) hown (hw _ tw_8) (hw _ tw_9) (hw _ tw_3) (hw _ tw_10) (by decide) (rm2 l Z a0 hw ((x0 &&& (2147483647 : Int32)) % (15 : Int32)) h0) e79 (by rw [hml]; rfl) pd_1 rfl (by decide) (W := 0) (Nat.le_refl _) (by decide) (by decide) (by decide) at_18 rfl rfl (fun v80 T80 L80 X80 hQ80 => ?_)
  obtain ⟨rfl, rfl, e80⟩ := hQ80
  show Ends p.tables e below _ (T80.setTop (mkF m 21 #[.val (.int x0), .val (.int x1), .val (.int x2), .val (.int x3), .val (.int x4), .val (.int x5), .val (.int ((x0 &&& (2147483647 : Int32)) % (15 : Int32))), .val (.ref r79), .unset, .unset, .unset, .unset] [(.int (own_first ((x0 &&& (2147483647 : Int32)) % (15 : Int32))))]))
  refine own_istore X80 hx hby at_21 rfl #[.val (.int x0), .val (.int x1), .val (.int x2), .val (.int x3), .val (.int x4), .val (.int x5), .val (.int ((x0 &&& (2147483647 : Int32)) % (15 : Int32))), .val (.ref r79), .val (.int (own_first ((x0 &&& (2147483647 : Int32)) % (15 : Int32)))), .unset, .unset, .unset] rfl ?_
  refine own_iloadN X80 hx hby at_23 rfl rfl ?_
  refine own_bipush X80 hx hby at_24 rfl (7 : Int32) rfl ?_
  refine own_iand X80 hx hby at_26 rfl ?_
  refine own_iconst X80 hx hby at_27 rfl (5 : Int32) rfl ?_
  refine own_irem X80 hx hby at_28 rfl (by decide) ?_
  refine own_istore X80 hx hby at_29 rfl #[.val (.int x0), .val (.int x1), .val (.int x2), .val (.int x3), .val (.int x4), .val (.int x5), .val (.int ((x0 &&& (2147483647 : Int32)) % (15 : Int32))), .val (.ref r79), .val (.int (own_first ((x0 &&& (2147483647 : Int32)) % (15 : Int32)))), .val (.int ((x1 &&& (7 : Int32)) % (5 : Int32))), .unset, .unset] rfl ?_
  rcases own_sz x1 with hz | hz | hz | hz | hz
  · -- size 0
    rw [hz]
    show Ends p.tables e below _ (T80.setTop (mkF m 31 #[.val (.int x0), .val (.int x1), .val (.int x2), .val (.int x3), .val (.int x4), .val (.int x5), .val (.int ((x0 &&& (2147483647 : Int32)) % (15 : Int32))), .val (.ref r79), .val (.int (own_first ((x0 &&& (2147483647 : Int32)) % (15 : Int32)))), .val (.int (0 : Int32)), .unset, .unset] []))
    refine own_iload X80 hx hby at_31 rfl rfl ?_
    refine own_newarray X80 hx hby hZ (aty := .byte) (hw _ tw_11) e80 (by decide) 0 (by decide) (by decide) (by decide) (by decide) .byte rfl [] rfl at_33 rfl (fun T81 h81 b81 k81 X81 e81 g81 E81 V81 => ?_)
    have ge_b81 : n0 ≤ b81 := own_ge O g81
    refine own_astore X81 hx hby at_35 rfl #[.val (.int x0), .val (.int x1), .val (.int x2), .val (.int x3), .val (.int x4), .val (.int x5), .val (.int ((x0 &&& (2147483647 : Int32)) % (15 : Int32))), .val (.ref r79), .val (.int (own_first ((x0 &&& (2147483647 : Int32)) % (15 : Int32)))), .val (.int (0 : Int32)), .val (.ref b81), .unset] rfl rfl ?_
    refine own_iload X81 hx hby at_37 rfl rfl ?_
    refine own_if_le X81 hx hby at_39 (pcY := 48) (pcN := 42) (by decide) rfl (fun (hc82 : 0 ≤ 0) => ?_) (fun (hc82 : 0 < 0) => False.elim (by exact absurd hc82 (by decide)))
    refine own_iload X81 hx hby at_48 rfl rfl ?_
    refine own_iconst X81 hx hby at_50 rfl (1 : Int32) rfl ?_
    refine own_icmp_le X81 hx hby at_51 (pcY := 60) (pcN := 54) (by decide) rfl (fun (hc83 : 0 ≤ 1) => ?_) (fun (hc83 : 1 < 0) => False.elim (by exact absurd hc83 (by decide)))
    refine own_iload X81 hx hby at_60 rfl rfl ?_
    refine own_iconst X81 hx hby at_62 rfl (2 : Int32) rfl ?_
    refine own_icmp_le X81 hx hby at_63 (pcY := 73) (pcN := 66) (by decide) rfl (fun (hc84 : 0 ≤ 2) => ?_) (fun (hc84 : 2 < 0) => False.elim (by exact absurd hc84 (by decide)))
    refine own_iload X81 hx hby at_73 rfl rfl ?_
    refine own_iconst X81 hx hby at_75 rfl (3 : Int32) rfl ?_
    refine own_icmp_le X81 hx hby at_76 (pcY := 86) (pcN := 79) (by decide) rfl (fun (hc85 : 0 ≤ 3) => ?_) (fun (hc85 : 3 < 0) => False.elim (by exact absurd hc85 (by decide)))
    refine own_aload X81 hx hby at_86 rfl rfl rfl ?_
    refine own_aload X81 hx hby at_88 rfl rfl rfl ?_
    have f87 := (O.ext E81)
    refine own_virtual X81 hx hby hZ (Cn := "com/example/lyrebird/lyrebird/store/Prefix") (a := r79) (argsL := [(.ref b81)]) (rest := []) hown (hw _ tw_12) (hw _ tw_13) (hw _ tw_15) (hw _ tw_14) (hw _ tw_6) (hw _ tw_16) (by decide) (rm3_0 l Z a0 hw r79 b81 h81 n0 f87 V81 (F79.ext f87.2) (own_nb _) (own_fb _)) (A79.ext f87.2) e81 (by rw [hml]; rfl) pd_2 rfl (by decide) (W := 0) (Nat.le_refl _) (by decide) (by decide) (by decide) at_90 rfl rfl (fun v86 T86 L86 X86 hQ86 => ?_)
    obtain ⟨b86, k86, rfl, N86q, K86, sq86, gq86, V86⟩ := hQ86
    show Ends p.tables e below _ (T86.setTop (mkF m 93 #[.val (.int x0), .val (.int x1), .val (.int x2), .val (.int x3), .val (.int x4), .val (.int x5), .val (.int ((x0 &&& (2147483647 : Int32)) % (15 : Int32))), .val (.ref r79), .val (.int (own_first ((x0 &&& (2147483647 : Int32)) % (15 : Int32)))), .val (.int (0 : Int32)), .val (.ref b81), .unset] [(.ref b86)]))
    refine own_astore X86 hx hby at_93 rfl #[.val (.int x0), .val (.int x1), .val (.int x2), .val (.int x3), .val (.int x4), .val (.int x5), .val (.int ((x0 &&& (2147483647 : Int32)) % (15 : Int32))), .val (.ref r79), .val (.int (own_first ((x0 &&& (2147483647 : Int32)) % (15 : Int32)))), .val (.int (0 : Int32)), .val (.ref b81), .val (.ref b86)] rfl rfl ?_
    refine own_aload X86 hx hby at_95 rfl rfl rfl ?_
    refine own_ifnonnullYes X86 hx hby at_97 (pcY := 102) (by decide) ?_
    refine own_aload X86 hx hby at_102 rfl rfl rfl ?_
    refine own_aload X86 hx hby at_104 rfl rfl rfl ?_
    refine own_acmp_ne X86 hx hby at_106 (pcY := 111) (pcN := 109) (by decide) rfl rfl rfl (fun (hc88 : ¬ ((.ref b86) : Value) = (.ref b81)) => ?_) (fun (hc88 : ((.ref b86) : Value) = (.ref b81)) => False.elim (by exact absurd (Value.ref.inj hc88).symm (Nat.ne_of_lt (Nat.lt_of_lt_of_le V81.lt sq86))))
    refine own_aload X86 hx hby at_111 rfl rfl rfl ?_
    refine own_arraylength X86 hx hby hZ rfl V86 at_113 rfl ?_
    refine own_iload X86 hx hby at_114 rfl rfl ?_
    refine own_iconst X86 hx hby at_116 rfl (1 : Int32) rfl ?_
    refine own_iadd X86 hx hby at_117 rfl ?_
    show Ends p.tables e below _ (T86.setTop (mkF m 118 #[.val (.int x0), .val (.int x1), .val (.int x2), .val (.int x3), .val (.int x4), .val (.int x5), .val (.int ((x0 &&& (2147483647 : Int32)) % (15 : Int32))), .val (.ref r79), .val (.int (own_first ((x0 &&& (2147483647 : Int32)) % (15 : Int32)))), .val (.int (0 : Int32)), .val (.ref b81), .val (.ref b86)] [(.int (1 : Int32)), (.int (1 : Int32))]))
    refine own_icmp_eq X86 hx hby at_118 (pcY := 123) (pcN := 121) (by decide) rfl (fun (hc89 : (1 : Int32) = (1 : Int32)) => ?_) (fun (hc89 : ¬ (1 : Int32) = (1 : Int32)) => False.elim (by exact absurd hc89 (by decide)))
    refine own_aload X86 hx hby at_123 rfl rfl rfl ?_
    refine own_iconst X86 hx hby at_125 rfl (0 : Int32) rfl ?_
    refine own_baload X86 hx hby hZ (own_first ((x0 &&& (2147483647 : Int32)) % (15 : Int32))) rfl V86 (by decide) rfl at_126 rfl ?_
    refine own_iload X86 hx hby at_127 rfl rfl ?_
    refine own_i2b X86 hx hby at_129 rfl ?_
    refine own_icmp_eq X86 hx hby at_130 (pcY := 135) (pcN := 133) (by decide) rfl (fun (hc90 : (own_first ((x0 &&& (2147483647 : Int32)) % (15 : Int32))) = (own_first ((x0 &&& (2147483647 : Int32)) % (15 : Int32))).toInt8.toInt32) => ?_) (fun (hc90 : ¬ (own_first ((x0 &&& (2147483647 : Int32)) % (15 : Int32))) = (own_first ((x0 &&& (2147483647 : Int32)) % (15 : Int32))).toInt8.toInt32) => False.elim (by exact hc90 (own_first_b _).symm))
    refine own_iload X86 hx hby at_135 rfl rfl ?_
    refine own_if_le X86 hx hby at_137 (pcY := 151) (pcN := 140) (by decide) rfl (fun (hc91 : 0 ≤ 0) => ?_) (fun (hc91 : 0 < 0) => False.elim (by exact absurd hc91 (by decide)))
    refine own_iload X86 hx hby at_151 rfl rfl ?_
    refine own_iconst X86 hx hby at_153 rfl (1 : Int32) rfl ?_
    refine own_icmp_le X86 hx hby at_154 (pcY := 168) (pcN := 157) (by decide) rfl (fun (hc92 : 0 ≤ 1) => ?_) (fun (hc92 : 1 < 0) => False.elim (by exact absurd hc92 (by decide)))
    refine own_iload X86 hx hby at_168 rfl rfl ?_
    refine own_iconst X86 hx hby at_170 rfl (2 : Int32) rfl ?_
    refine own_icmp_le X86 hx hby at_171 (pcY := 186) (pcN := 174) (by decide) rfl (fun (hc93 : 0 ≤ 2) => ?_) (fun (hc93 : 2 < 0) => False.elim (by exact absurd hc93 (by decide)))
    refine own_iload X86 hx hby at_186 rfl rfl ?_
    refine own_iconst X86 hx hby at_188 rfl (3 : Int32) rfl ?_
    refine own_icmp_le X86 hx hby at_189 (pcY := 204) (pcN := 192) (by decide) rfl (fun (hc94 : 0 ≤ 3) => ?_) (fun (hc94 : 3 < 0) => False.elim (by exact absurd hc94 (by decide)))
    refine own_iload X86 hx hby at_204 rfl rfl ?_
    refine own_if_le X86 hx hby at_206 (pcY := 220) (pcN := 209) (by decide) rfl (fun (hc95 : 0 ≤ 0) => ?_) (fun (hc95 : 0 < 0) => False.elim (by exact absurd hc95 (by decide)))
    refine own_iload X86 hx hby at_220 rfl rfl ?_
    refine own_iconst X86 hx hby at_222 rfl (1 : Int32) rfl ?_
    refine own_icmp_le X86 hx hby at_223 (pcY := 237) (pcN := 226) (by decide) rfl (fun (hc96 : 0 ≤ 1) => ?_) (fun (hc96 : 1 < 0) => False.elim (by exact absurd hc96 (by decide)))
    refine own_iload X86 hx hby at_237 rfl rfl ?_
    refine own_iconst X86 hx hby at_239 rfl (2 : Int32) rfl ?_
    refine own_icmp_le X86 hx hby at_240 (pcY := 255) (pcN := 243) (by decide) rfl (fun (hc97 : 0 ≤ 2) => ?_) (fun (hc97 : 2 < 0) => False.elim (by exact absurd hc97 (by decide)))
    refine own_iload X86 hx hby at_255 rfl rfl ?_
    refine own_iconst X86 hx hby at_257 rfl (3 : Int32) rfl ?_
    refine own_icmp_le X86 hx hby at_258 (pcY := 273) (pcN := 261) (by decide) rfl (fun (hc98 : 0 ≤ 3) => ?_) (fun (hc98 : 3 < 0) => False.elim (by exact absurd hc98 (by decide)))
    refine own_iconst X86 hx hby at_273 rfl (1 : Int32) rfl ?_
    refine own_ret X86 hx hby hret hlk at_274 (.int (1 : Int32)) rfl (Or.inl ⟨rfl, by simp, _, rfl⟩) (by decide) (by decide) ?_
    exact ⟨rfl, (Fr.app (Fr.app (Fr.app N0 (Fr.nil _)) (Fr.nil _)) N86q)⟩
  · -- size 1
    rw [hz]
    show Ends p.tables e below _ (T80.setTop (mkF m 31 #[.val (.int x0), .val (.int x1), .val (.int x2), .val (.int x3), .val (.int x4), .val (.int x5), .val (.int ((x0 &&& (2147483647 : Int32)) % (15 : Int32))), .val (.ref r79), .val (.int (own_first ((x0 &&& (2147483647 : Int32)) % (15 : Int32)))), .val (.int (1 : Int32)), .unset, .unset] []))
    refine own_iload X80 hx hby at_31 rfl rfl ?_
    refine own_newarray X80 hx hby hZ (aty := .byte) (hw _ tw_11) e80 (by decide) 1 (by decide) (by decide) (by decide) (by decide) .byte rfl [(.int (0 : Int32))] rfl at_33 rfl (fun T99 h99 b99 k99 X99 e99 g99 E99 V99 => ?_)
    have ge_b99 : n0 ≤ b99 := own_ge O g99
    refine own_astore X99 hx hby at_35 rfl #[.val (.int x0), .val (.int x1), .val (.int x2), .val (.int x3), .val (.int x4), .val (.int x5), .val (.int ((x0 &&& (2147483647 : Int32)) % (15 : Int32))), .val (.ref r79), .val (.int (own_first ((x0 &&& (2147483647 : Int32)) % (15 : Int32)))), .val (.int (1 : Int32)), .val (.ref b99), .unset] rfl rfl ?_
    refine own_iload X99 hx hby at_37 rfl rfl ?_
    refine own_if_le X99 hx hby at_39 (pcY := 48) (pcN := 42) (by decide) rfl (fun (hc100 : 1 ≤ 0) => False.elim (by exact absurd hc100 (by decide))) (fun (hc100 : 0 < 1) => ?_)
    refine own_aload X99 hx hby at_42 rfl rfl rfl ?_
    refine own_iconst X99 hx hby at_44 rfl (0 : Int32) rfl ?_
    refine own_iloadN X99 hx hby at_45 rfl rfl ?_
    refine own_i2b X99 hx hby at_46 rfl ?_
    refine own_bastore X99 hx hby hZ x2.toInt8.toInt32 (own_narb _) e99 V99 (by decide) 0 rfl (show 0 < 1 by decide) [(.int x2.toInt8.toInt32)] rfl (fits_nar_byte _) (Fr.app (Fr.app N0 (Fr.nil _)) (Fr.nil _)) ge_b99 at_47 rfl (fun T101 h101 L101 X101 e101 W101 V101 N101 => ?_)
    refine own_iload X101 hx hby at_48 rfl rfl ?_
    refine own_iconst X101 hx hby at_50 rfl (1 : Int32) rfl ?_
    refine own_icmp_le X101 hx hby at_51 (pcY := 60) (pcN := 54) (by decide) rfl (fun (hc102 : 1 ≤ 1) => ?_) (fun (hc102 : 1 < 1) => False.elim (by exact absurd hc102 (by decide)))
    refine own_iload X101 hx hby at_60 rfl rfl ?_
    refine own_iconst X101 hx hby at_62 rfl (2 : Int32) rfl ?_
    refine own_icmp_le X101 hx hby at_63 (pcY := 73) (pcN := 66) (by decide) rfl (fun (hc103 : 1 ≤ 2) => ?_) (fun (hc103 : 2 < 1) => False.elim (by exact absurd hc103 (by decide)))
    refine own_iload X101 hx hby at_73 rfl rfl ?_
    refine own_iconst X101 hx hby at_75 rfl (3 : Int32) rfl ?_
    refine own_icmp_le X101 hx hby at_76 (pcY := 86) (pcN := 79) (by decide) rfl (fun (hc104 : 1 ≤ 3) => ?_) (fun (hc104 : 3 < 1) => False.elim (by exact absurd hc104 (by decide)))
    refine own_aload X101 hx hby at_86 rfl rfl rfl ?_
    refine own_aload X101 hx hby at_88 rfl rfl rfl ?_
    have f106 := ((O.ext E99).wr W101 ge_b99)
    refine own_virtual X101 hx hby hZ (Cn := "com/example/lyrebird/lyrebird/store/Prefix") (a := r79) (argsL := [(.ref b99)]) (rest := []) hown (hw _ tw_12) (hw _ tw_13) (hw _ tw_15) (hw _ tw_14) (hw _ tw_6) (hw _ tw_16) (by decide) (rm3_1 l Z a0 hw r79 b99 h101 n0 f106 V101 (F79.ext f106.2) (own_nb _) (own_fb _)) (A79.ext f106.2) e101 (by rw [hml]; rfl) pd_2 rfl (by decide) (W := 0) (Nat.le_refl _) (by decide) (by decide) (by decide) at_90 rfl rfl (fun v105 T105 L105 X105 hQ105 => ?_)
    obtain ⟨b105, k105, rfl, N105q, K105, sq105, gq105, V105⟩ := hQ105
    show Ends p.tables e below _ (T105.setTop (mkF m 93 #[.val (.int x0), .val (.int x1), .val (.int x2), .val (.int x3), .val (.int x4), .val (.int x5), .val (.int ((x0 &&& (2147483647 : Int32)) % (15 : Int32))), .val (.ref r79), .val (.int (own_first ((x0 &&& (2147483647 : Int32)) % (15 : Int32)))), .val (.int (1 : Int32)), .val (.ref b99), .unset] [(.ref b105)]))
    refine own_astore X105 hx hby at_93 rfl #[.val (.int x0), .val (.int x1), .val (.int x2), .val (.int x3), .val (.int x4), .val (.int x5), .val (.int ((x0 &&& (2147483647 : Int32)) % (15 : Int32))), .val (.ref r79), .val (.int (own_first ((x0 &&& (2147483647 : Int32)) % (15 : Int32)))), .val (.int (1 : Int32)), .val (.ref b99), .val (.ref b105)] rfl rfl ?_
    refine own_aload X105 hx hby at_95 rfl rfl rfl ?_
    refine own_ifnonnullYes X105 hx hby at_97 (pcY := 102) (by decide) ?_
    refine own_aload X105 hx hby at_102 rfl rfl rfl ?_
    refine own_aload X105 hx hby at_104 rfl rfl rfl ?_
    refine own_acmp_ne X105 hx hby at_106 (pcY := 111) (pcN := 109) (by decide) rfl rfl rfl (fun (hc107 : ¬ ((.ref b105) : Value) = (.ref b99)) => ?_) (fun (hc107 : ((.ref b105) : Value) = (.ref b99)) => False.elim (by exact absurd (Value.ref.inj hc107).symm (Nat.ne_of_lt (Nat.lt_of_lt_of_le V101.lt sq105))))
    refine own_aload X105 hx hby at_111 rfl rfl rfl ?_
    refine own_arraylength X105 hx hby hZ rfl V105 at_113 rfl ?_
    refine own_iload X105 hx hby at_114 rfl rfl ?_
    refine own_iconst X105 hx hby at_116 rfl (1 : Int32) rfl ?_
    refine own_iadd X105 hx hby at_117 rfl ?_
    show Ends p.tables e below _ (T105.setTop (mkF m 118 #[.val (.int x0), .val (.int x1), .val (.int x2), .val (.int x3), .val (.int x4), .val (.int x5), .val (.int ((x0 &&& (2147483647 : Int32)) % (15 : Int32))), .val (.ref r79), .val (.int (own_first ((x0 &&& (2147483647 : Int32)) % (15 : Int32)))), .val (.int (1 : Int32)), .val (.ref b99), .val (.ref b105)] [(.int (2 : Int32)), (.int (2 : Int32))]))
    refine own_icmp_eq X105 hx hby at_118 (pcY := 123) (pcN := 121) (by decide) rfl (fun (hc108 : (2 : Int32) = (2 : Int32)) => ?_) (fun (hc108 : ¬ (2 : Int32) = (2 : Int32)) => False.elim (by exact absurd hc108 (by decide)))
    refine own_aload X105 hx hby at_123 rfl rfl rfl ?_
    refine own_iconst X105 hx hby at_125 rfl (0 : Int32) rfl ?_
    refine own_baload X105 hx hby hZ (own_first ((x0 &&& (2147483647 : Int32)) % (15 : Int32))) rfl V105 (by decide) rfl at_126 rfl ?_
    refine own_iload X105 hx hby at_127 rfl rfl ?_
    refine own_i2b X105 hx hby at_129 rfl ?_
    refine own_icmp_eq X105 hx hby at_130 (pcY := 135) (pcN := 133) (by decide) rfl (fun (hc109 : (own_first ((x0 &&& (2147483647 : Int32)) % (15 : Int32))) = (own_first ((x0 &&& (2147483647 : Int32)) % (15 : Int32))).toInt8.toInt32) => ?_) (fun (hc109 : ¬ (own_first ((x0 &&& (2147483647 : Int32)) % (15 : Int32))) = (own_first ((x0 &&& (2147483647 : Int32)) % (15 : Int32))).toInt8.toInt32) => False.elim (by exact hc109 (own_first_b _).symm))
    refine own_iload X105 hx hby at_135 rfl rfl ?_
    refine own_if_le X105 hx hby at_137 (pcY := 151) (pcN := 140) (by decide) rfl (fun (hc110 : 1 ≤ 0) => False.elim (by exact absurd hc110 (by decide))) (fun (hc110 : 0 < 1) => ?_)
    refine own_aload X105 hx hby at_140 rfl rfl rfl ?_
    refine own_iconst X105 hx hby at_142 rfl (1 : Int32) rfl ?_
    refine own_baload X105 hx hby hZ x2.toInt8.toInt32 rfl V105 (by decide) rfl at_143 rfl ?_
    refine own_iloadN X105 hx hby at_144 rfl rfl ?_
    refine own_i2b X105 hx hby at_145 rfl ?_
    refine own_icmp_eq X105 hx hby at_146 (pcY := 151) (pcN := 149) (by decide) rfl (fun (hc111 : x2.toInt8.toInt32 = x2.toInt8.toInt32) => ?_) (fun (hc111 : ¬ x2.toInt8.toInt32 = x2.toInt8.toInt32) => False.elim (by exact hc111 rfl))
    refine own_iload X105 hx hby at_151 rfl rfl ?_
    refine own_iconst X105 hx hby at_153 rfl (1 : Int32) rfl ?_
    refine own_icmp_le X105 hx hby at_154 (pcY := 168) (pcN := 157) (by decide) rfl (fun (hc112 : 1 ≤ 1) => ?_) (fun (hc112 : 1 < 1) => False.elim (by exact absurd hc112 (by decide)))
    refine own_iload X105 hx hby at_168 rfl rfl ?_
    refine own_iconst X105 hx hby at_170 rfl (2 : Int32) rfl ?_
    refine own_icmp_le X105 hx hby at_171 (pcY := 186) (pcN := 174) (by decide) rfl (fun (hc113 : 1 ≤ 2) => ?_) (fun (hc113 : 2 < 1) => False.elim (by exact absurd hc113 (by decide)))
    refine own_iload X105 hx hby at_186 rfl rfl ?_
    refine own_iconst X105 hx hby at_188 rfl (3 : Int32) rfl ?_
    refine own_icmp_le X105 hx hby at_189 (pcY := 204) (pcN := 192) (by decide) rfl (fun (hc114 : 1 ≤ 3) => ?_) (fun (hc114 : 3 < 1) => False.elim (by exact absurd hc114 (by decide)))
    refine own_iload X105 hx hby at_204 rfl rfl ?_
    refine own_if_le X105 hx hby at_206 (pcY := 220) (pcN := 209) (by decide) rfl (fun (hc115 : 1 ≤ 0) => False.elim (by exact absurd hc115 (by decide))) (fun (hc115 : 0 < 1) => ?_)
    refine own_aload X105 hx hby at_209 rfl rfl rfl ?_
    refine own_iconst X105 hx hby at_211 rfl (0 : Int32) rfl ?_
    have f116 := (V101.keep K105 nin0)
    refine own_baload X105 hx hby hZ x2.toInt8.toInt32 rfl f116 (by decide) rfl at_212 rfl ?_
    refine own_iloadN X105 hx hby at_213 rfl rfl ?_
    refine own_i2b X105 hx hby at_214 rfl ?_
    refine own_icmp_eq X105 hx hby at_215 (pcY := 220) (pcN := 218) (by decide) rfl (fun (hc117 : x2.toInt8.toInt32 = x2.toInt8.toInt32) => ?_) (fun (hc117 : ¬ x2.toInt8.toInt32 = x2.toInt8.toInt32) => False.elim (by exact hc117 rfl))
    refine own_iload X105 hx hby at_220 rfl rfl ?_
    refine own_iconst X105 hx hby at_222 rfl (1 : Int32) rfl ?_
    refine own_icmp_le X105 hx hby at_223 (pcY := 237) (pcN := 226) (by decide) rfl (fun (hc118 : 1 ≤ 1) => ?_) (fun (hc118 : 1 < 1) => False.elim (by exact absurd hc118 (by decide)))
    refine own_iload X105 hx hby at_237 rfl rfl ?_
    refine own_iconst X105 hx hby at_239 rfl (2 : Int32) rfl ?_
    refine own_icmp_le X105 hx hby at_240 (pcY := 255) (pcN := 243) (by decide) rfl (fun (hc119 : 1 ≤ 2) => ?_) (fun (hc119 : 2 < 1) => False.elim (by exact absurd hc119 (by decide)))
    refine own_iload X105 hx hby at_255 rfl rfl ?_
    refine own_iconst X105 hx hby at_257 rfl (3 : Int32) rfl ?_
    refine own_icmp_le X105 hx hby at_258 (pcY := 273) (pcN := 261) (by decide) rfl (fun (hc120 : 1 ≤ 3) => ?_) (fun (hc120 : 3 < 1) => False.elim (by exact absurd hc120 (by decide)))
    refine own_iconst X105 hx hby at_273 rfl (1 : Int32) rfl ?_
    refine own_ret X105 hx hby hret hlk at_274 (.int (1 : Int32)) rfl (Or.inl ⟨rfl, by simp, _, rfl⟩) (by decide) (by decide) ?_
    exact ⟨rfl, (Fr.app N101 N105q)⟩
  · -- size 2
    rw [hz]
    show Ends p.tables e below _ (T80.setTop (mkF m 31 #[.val (.int x0), .val (.int x1), .val (.int x2), .val (.int x3), .val (.int x4), .val (.int x5), .val (.int ((x0 &&& (2147483647 : Int32)) % (15 : Int32))), .val (.ref r79), .val (.int (own_first ((x0 &&& (2147483647 : Int32)) % (15 : Int32)))), .val (.int (2 : Int32)), .unset, .unset] []))
    refine own_iload X80 hx hby at_31 rfl rfl ?_
    refine own_newarray X80 hx hby hZ (aty := .byte) (hw _ tw_11) e80 (by decide) 2 (by decide) (by decide) (by decide) (by decide) .byte rfl [(.int (0 : Int32)), (.int (0 : Int32))] rfl at_33 rfl (fun T121 h121 b121 k121 X121 e121 g121 E121 V121 => ?_)
    have ge_b121 : n0 ≤ b121 := own_ge O g121
    refine own_astore X121 hx hby at_35 rfl #[.val (.int x0), .val (.int x1), .val (.int x2), .val (.int x3), .val (.int x4), .val (.int x5), .val (.int ((x0 &&& (2147483647 : Int32)) % (15 : Int32))), .val (.ref r79), .val (.int (own_first ((x0 &&& (2147483647 : Int32)) % (15 : Int32)))), .val (.int (2 : Int32)), .val (.ref b121), .unset] rfl rfl ?_
    refine own_iload X121 hx hby at_37 rfl rfl ?_
    refine own_if_le X121 hx hby at_39 (pcY := 48) (pcN := 42) (by decide) rfl (fun (hc122 : 2 ≤ 0) => False.elim (by exact absurd hc122 (by decide))) (fun (hc122 : 0 < 2) => ?_)
    refine own_aload X121 hx hby at_42 rfl rfl rfl ?_
    refine own_iconst X121 hx hby at_44 rfl (0 : Int32) rfl ?_
    refine own_iloadN X121 hx hby at_45 rfl rfl ?_
    refine own_i2b X121 hx hby at_46 rfl ?_
    refine own_bastore X121 hx hby hZ x2.toInt8.toInt32 (own_narb _) e121 V121 (by decide) 0 rfl (show 0 < 2 by decide) [(.int x2.toInt8.toInt32), (.int (0 : Int32))] rfl (fits_nar_byte _) (Fr.app (Fr.app N0 (Fr.nil _)) (Fr.nil _)) ge_b121 at_47 rfl (fun T123 h123 L123 X123 e123 W123 V123 N123 => ?_)
    refine own_iload X123 hx hby at_48 rfl rfl ?_
    refine own_iconst X123 hx hby at_50 rfl (1 : Int32) rfl ?_
    refine own_icmp_le X123 hx hby at_51 (pcY := 60) (pcN := 54) (by decide) rfl (fun (hc124 : 2 ≤ 1) => False.elim (by exact absurd hc124 (by decide))) (fun (hc124 : 1 < 2) => ?_)
    refine own_aload X123 hx hby at_54 rfl rfl rfl ?_
    refine own_iconst X123 hx hby at_56 rfl (1 : Int32) rfl ?_
    refine own_iloadN X123 hx hby at_57 rfl rfl ?_
    refine own_i2b X123 hx hby at_58 rfl ?_
    refine own_bastore X123 hx hby hZ x3.toInt8.toInt32 (own_narb _) e123 V123 (by decide) 1 rfl (show 1 < 2 by decide) [(.int x2.toInt8.toInt32), (.int x3.toInt8.toInt32)] rfl (fits_nar_byte _) N123 ge_b121 at_59 rfl (fun T125 h125 L125 X125 e125 W125 V125 N125 => ?_)
    refine own_iload X125 hx hby at_60 rfl rfl ?_
    refine own_iconst X125 hx hby at_62 rfl (2 : Int32) rfl ?_
    refine own_icmp_le X125 hx hby at_63 (pcY := 73) (pcN := 66) (by decide) rfl (fun (hc126 : 2 ≤ 2) => ?_) (fun (hc126 : 2 < 2) => False.elim (by exact absurd hc126 (by decide)))
    refine own_iload X125 hx hby at_73 rfl rfl ?_
    refine own_iconst X125 hx hby at_75 rfl (3 : Int32) rfl ?_
    refine own_icmp_le X125 hx hby at_76 (pcY := 86) (pcN := 79) (by decide) rfl (fun (hc127 : 2 ≤ 3) => ?_) (fun (hc127 : 3 < 2) => False.elim (by exact absurd hc127 (by decide)))
    refine own_aload X125 hx hby at_86 rfl rfl rfl ?_
    refine own_aload X125 hx hby at_88 rfl rfl rfl ?_
    have f129 := (((O.ext E121).wr W123 ge_b121).wr W125 ge_b121)
    refine own_virtual X125 hx hby hZ (Cn := "com/example/lyrebird/lyrebird/store/Prefix") (a := r79) (argsL := [(.ref b121)]) (rest := []) hown (hw _ tw_12) (hw _ tw_13) (hw _ tw_15) (hw _ tw_14) (hw _ tw_6) (hw _ tw_16) (by decide) (rm3_2 l Z a0 hw r79 b121 h125 n0 f129 V125 (F79.ext f129.2) (own_nb _) (own_fb _)) (A79.ext f129.2) e125 (by rw [hml]; rfl) pd_2 rfl (by decide) (W := 0) (Nat.le_refl _) (by decide) (by decide) (by decide) at_90 rfl rfl (fun v128 T128 L128 X128 hQ128 => ?_)
    obtain ⟨b128, k128, rfl, N128q, K128, sq128, gq128, V128⟩ := hQ128
    show Ends p.tables e below _ (T128.setTop (mkF m 93 #[.val (.int x0), .val (.int x1), .val (.int x2), .val (.int x3), .val (.int x4), .val (.int x5), .val (.int ((x0 &&& (2147483647 : Int32)) % (15 : Int32))), .val (.ref r79), .val (.int (own_first ((x0 &&& (2147483647 : Int32)) % (15 : Int32)))), .val (.int (2 : Int32)), .val (.ref b121), .unset] [(.ref b128)]))
    refine own_astore X128 hx hby at_93 rfl #[.val (.int x0), .val (.int x1), .val (.int x2), .val (.int x3), .val (.int x4), .val (.int x5), .val (.int ((x0 &&& (2147483647 : Int32)) % (15 : Int32))), .val (.ref r79), .val (.int (own_first ((x0 &&& (2147483647 : Int32)) % (15 : Int32)))), .val (.int (2 : Int32)), .val (.ref b121), .val (.ref b128)] rfl rfl ?_
    refine own_aload X128 hx hby at_95 rfl rfl rfl ?_
    refine own_ifnonnullYes X128 hx hby at_97 (pcY := 102) (by decide) ?_
    refine own_aload X128 hx hby at_102 rfl rfl rfl ?_
    refine own_aload X128 hx hby at_104 rfl rfl rfl ?_
    refine own_acmp_ne X128 hx hby at_106 (pcY := 111) (pcN := 109) (by decide) rfl rfl rfl (fun (hc130 : ¬ ((.ref b128) : Value) = (.ref b121)) => ?_) (fun (hc130 : ((.ref b128) : Value) = (.ref b121)) => False.elim (by exact absurd (Value.ref.inj hc130).symm (Nat.ne_of_lt (Nat.lt_of_lt_of_le V125.lt sq128))))
    refine own_aload X128 hx hby at_111 rfl rfl rfl ?_
    refine own_arraylength X128 hx hby hZ rfl V128 at_113 rfl ?_
    refine own_iload X128 hx hby at_114 rfl rfl ?_
    refine own_iconst X128 hx hby at_116 rfl (1 : Int32) rfl ?_
    refine own_iadd X128 hx hby at_117 rfl ?_
    show Ends p.tables e below _ (T128.setTop (mkF m 118 #[.val (.int x0), .val (.int x1), .val (.int x2), .val (.int x3), .val (.int x4), .val (.int x5), .val (.int ((x0 &&& (2147483647 : Int32)) % (15 : Int32))), .val (.ref r79), .val (.int (own_first ((x0 &&& (2147483647 : Int32)) % (15 : Int32)))), .val (.int (2 : Int32)), .val (.ref b121), .val (.ref b128)] [(.int (3 : Int32)), (.int (3 : Int32))]))
    refine own_icmp_eq X128 hx hby at_118 (pcY := 123) (pcN := 121) (by decide) rfl (fun (hc131 : (3 : Int32) = (3 : Int32)) => ?_) (fun (hc131 : ¬ (3 : Int32) = (3 : Int32)) => False.elim (by exact absurd hc131 (by decide)))
    refine own_aload X128 hx hby at_123 rfl rfl rfl ?_
    refine own_iconst X128 hx hby at_125 rfl (0 : Int32) rfl ?_
    refine own_baload X128 hx hby hZ (own_first ((x0 &&& (2147483647 : Int32)) % (15 : Int32))) rfl V128 (by decide) rfl at_126 rfl ?_
    refine own_iload X128 hx hby at_127 rfl rfl ?_
    refine own_i2b X128 hx hby at_129 rfl ?_
    refine own_icmp_eq X128 hx hby at_130 (pcY := 135) (pcN := 133) (by decide) rfl (fun (hc132 : (own_first ((x0 &&& (2147483647 : Int32)) % (15 : Int32))) = (own_first ((x0 &&& (2147483647 : Int32)) % (15 : Int32))).toInt8.toInt32) => ?_) (fun (hc132 : ¬ (own_first ((x0 &&& (2147483647 : Int32)) % (15 : Int32))) = (own_first ((x0 &&& (2147483647 : Int32)) % (15 : Int32))).toInt8.toInt32) => False.elim (by exact hc132 (own_first_b _).symm))
    refine own_iload X128 hx hby at_135 rfl rfl ?_
    refine own_if_le X128 hx hby at_137 (pcY := 151) (pcN := 140) (by decide) rfl (fun (hc133 : 2 ≤ 0) => False.elim (by exact absurd hc133 (by decide))) (fun (hc133 : 0 < 2) => ?_)
    refine own_aload X128 hx hby at_140 rfl rfl rfl ?_
    refine own_iconst X128 hx hby at_142 rfl (1 : Int32) rfl ?_
    refine own_baload X128 hx hby hZ x2.toInt8.toInt32 rfl V128 (by decide) rfl at_143 rfl ?_
    refine own_iloadN X128 hx hby at_144 rfl rfl ?_
    refine own_i2b X128 hx hby at_145 rfl ?_
    refine own_icmp_eq X128 hx hby at_146 (pcY := 151) (pcN := 149) (by decide) rfl (fun (hc134 : x2.toInt8.toInt32 = x2.toInt8.toInt32) => ?_) (fun (hc134 : ¬ x2.toInt8.toInt32 = x2.toInt8.toInt32) => False.elim (by exact hc134 rfl))
    refine own_iload X128 hx hby at_151 rfl rfl ?_
    refine own_iconst X128 hx hby at_153 rfl (1 : Int32) rfl ?_
    refine own_icmp_le X128 hx hby at_154 (pcY := 168) (pcN := 157) (by decide) rfl (fun (hc135 : 2 ≤ 1) => False.elim (by exact absurd hc135 (by decide))) (fun (hc135 : 1 < 2) => ?_)
    refine own_aload X128 hx hby at_157 rfl rfl rfl ?_
    refine own_iconst X128 hx hby at_159 rfl (2 : Int32) rfl ?_
    refine own_baload X128 hx hby hZ x3.toInt8.toInt32 rfl V128 (by decide) rfl at_160 rfl ?_
    refine own_iloadN X128 hx hby at_161 rfl rfl ?_
    refine own_i2b X128 hx hby at_162 rfl ?_
    refine own_icmp_eq X128 hx hby at_163 (pcY := 168) (pcN := 166) (by decide) rfl (fun (hc136 : x3.toInt8.toInt32 = x3.toInt8.toInt32) => ?_) (fun (hc136 : ¬ x3.toInt8.toInt32 = x3.toInt8.toInt32) => False.elim (by exact hc136 rfl))
    refine own_iload X128 hx hby at_168 rfl rfl ?_
    refine own_iconst X128 hx hby at_170 rfl (2 : Int32) rfl ?_
    refine own_icmp_le X128 hx hby at_171 (pcY := 186) (pcN := 174) (by decide) rfl (fun (hc137 : 2 ≤ 2) => ?_) (fun (hc137 : 2 < 2) => False.elim (by exact absurd hc137 (by decide)))
    refine own_iload X128 hx hby at_186 rfl rfl ?_
    refine own_iconst X128 hx hby at_188 rfl (3 : Int32) rfl ?_
    refine own_icmp_le X128 hx hby at_189 (pcY := 204) (pcN := 192) (by decide) rfl (fun (hc138 : 2 ≤ 3) => ?_) (fun (hc138 : 3 < 2) => False.elim (by exact absurd hc138 (by decide)))
    refine own_iload X128 hx hby at_204 rfl rfl ?_
    refine own_if_le X128 hx hby at_206 (pcY := 220) (pcN := 209) (by decide) rfl (fun (hc139 : 2 ≤ 0) => False.elim (by exact absurd hc139 (by decide))) (fun (hc139 : 0 < 2) => ?_)
    refine own_aload X128 hx hby at_209 rfl rfl rfl ?_
    refine own_iconst X128 hx hby at_211 rfl (0 : Int32) rfl ?_
    have f140 := (V125.keep K128 nin0)
    refine own_baload X128 hx hby hZ x2.toInt8.toInt32 rfl f140 (by decide) rfl at_212 rfl ?_
    refine own_iloadN X128 hx hby at_213 rfl rfl ?_
    refine own_i2b X128 hx hby at_214 rfl ?_
    refine own_icmp_eq X128 hx hby at_215 (pcY := 220) (pcN := 218) (by decide) rfl (fun (hc141 : x2.toInt8.toInt32 = x2.toInt8.toInt32) => ?_) (fun (hc141 : ¬ x2.toInt8.toInt32 = x2.toInt8.toInt32) => False.elim (by exact hc141 rfl))
    refine own_iload X128 hx hby at_220 rfl rfl ?_
    refine own_iconst X128 hx hby at_222 rfl (1 : Int32) rfl ?_
    refine own_icmp_le X128 hx hby at_223 (pcY := 237) (pcN := 226) (by decide) rfl (fun (hc142 : 2 ≤ 1) => False.elim (by exact absurd hc142 (by decide))) (fun (hc142 : 1 < 2) => ?_)
    refine own_aload X128 hx hby at_226 rfl rfl rfl ?_
    refine own_iconst X128 hx hby at_228 rfl (1 : Int32) rfl ?_
    refine own_baload X128 hx hby hZ x3.toInt8.toInt32 rfl f140 (by decide) rfl at_229 rfl ?_
    refine own_iloadN X128 hx hby at_230 rfl rfl ?_
    refine own_i2b X128 hx hby at_231 rfl ?_
    refine own_icmp_eq X128 hx hby at_232 (pcY := 237) (pcN := 235) (by decide) rfl (fun (hc143 : x3.toInt8.toInt32 = x3.toInt8.toInt32) => ?_) (fun (hc143 : ¬ x3.toInt8.toInt32 = x3.toInt8.toInt32) => False.elim (by exact hc143 rfl))
    refine own_iload X128 hx hby at_237 rfl rfl ?_
    refine own_iconst X128 hx hby at_239 rfl (2 : Int32) rfl ?_
    refine own_icmp_le X128 hx hby at_240 (pcY := 255) (pcN := 243) (by decide) rfl (fun (hc144 : 2 ≤ 2) => ?_) (fun (hc144 : 2 < 2) => False.elim (by exact absurd hc144 (by decide)))
    refine own_iload X128 hx hby at_255 rfl rfl ?_
    refine own_iconst X128 hx hby at_257 rfl (3 : Int32) rfl ?_
    refine own_icmp_le X128 hx hby at_258 (pcY := 273) (pcN := 261) (by decide) rfl (fun (hc145 : 2 ≤ 3) => ?_) (fun (hc145 : 3 < 2) => False.elim (by exact absurd hc145 (by decide)))
    refine own_iconst X128 hx hby at_273 rfl (1 : Int32) rfl ?_
    refine own_ret X128 hx hby hret hlk at_274 (.int (1 : Int32)) rfl (Or.inl ⟨rfl, by simp, _, rfl⟩) (by decide) (by decide) ?_
    exact ⟨rfl, (Fr.app N125 N128q)⟩
  · -- size 3
    rw [hz]
    show Ends p.tables e below _ (T80.setTop (mkF m 31 #[.val (.int x0), .val (.int x1), .val (.int x2), .val (.int x3), .val (.int x4), .val (.int x5), .val (.int ((x0 &&& (2147483647 : Int32)) % (15 : Int32))), .val (.ref r79), .val (.int (own_first ((x0 &&& (2147483647 : Int32)) % (15 : Int32)))), .val (.int (3 : Int32)), .unset, .unset] []))
    refine own_iload X80 hx hby at_31 rfl rfl ?_
    refine own_newarray X80 hx hby hZ (aty := .byte) (hw _ tw_11) e80 (by decide) 3 (by decide) (by decide) (by decide) (by decide) .byte rfl [(.int (0 : Int32)), (.int (0 : Int32)), (.int (0 : Int32))] rfl at_33 rfl (fun T146 h146 b146 k146 X146 e146 g146 E146 V146 => ?_)
    have ge_b146 : n0 ≤ b146 := own_ge O g146
    refine own_astore X146 hx hby at_35 rfl #[.val (.int x0), .val (.int x1), .val (.int x2), .val (.int x3), .val (.int x4), .val (.int x5), .val (.int ((x0 &&& (2147483647 : Int32)) % (15 : Int32))), .val (.ref r79), .val (.int (own_first ((x0 &&& (2147483647 : Int32)) % (15 : Int32)))), .val (.int (3 : Int32)), .val (.ref b146), .unset] rfl rfl ?_
    refine own_iload X146 hx hby at_37 rfl rfl ?_
    refine own_if_le X146 hx hby at_39 (pcY := 48) (pcN := 42) (by decide) rfl (fun (hc147 : 3 ≤ 0) => False.elim (by exact absurd hc147 (by decide))) (fun (hc147 : 0 < 3) => ?_)
    refine own_aload X146 hx hby at_42 rfl rfl rfl ?_
    refine own_iconst X146 hx hby at_44 rfl (0 : Int32) rfl ?_
    refine own_iloadN X146 hx hby at_45 rfl rfl ?_
    refine own_i2b X146 hx hby at_46 rfl ?_
    refine own_bastore X146 hx hby hZ x2.toInt8.toInt32 (own_narb _) e146 V146 (by decide) 0 rfl (show 0 < 3 by decide) [(.int x2.toInt8.toInt32), (.int (0 : Int32)), (.int (0 : Int32))] rfl (fits_nar_byte _) (Fr.app (Fr.app N0 (Fr.nil _)) (Fr.nil _)) ge_b146 at_47 rfl (fun T148 h148 L148 X148 e148 W148 V148 N148 => ?_)
    refine own_iload X148 hx hby at_48 rfl rfl ?_
    refine own_iconst X148 hx hby at_50 rfl (1 : Int32) rfl ?_
    refine own_icmp_le X148 hx hby at_51 (pcY := 60) (pcN := 54) (by decide) rfl (fun (hc149 : 3 ≤ 1) => False.elim (by exact absurd hc149 (by decide))) (fun (hc149 : 1 < 3) => ?_)
    refine own_aload X148 hx hby at_54 rfl rfl rfl ?_
    refine own_iconst X148 hx hby at_56 rfl (1 : Int32) rfl ?_
    refine own_iloadN X148 hx hby at_57 rfl rfl ?_
    refine own_i2b X148 hx hby at_58 rfl ?_
    refine own_bastore X148 hx hby hZ x3.toInt8.toInt32 (own_narb _) e148 V148 (by decide) 1 rfl (show 1 < 3 by decide) [(.int x2.toInt8.toInt32), (.int x3.toInt8.toInt32), (.int (0 : Int32))] rfl (fits_nar_byte _) N148 ge_b146 at_59 rfl (fun T150 h150 L150 X150 e150 W150 V150 N150 => ?_)
    refine own_iload X150 hx hby at_60 rfl rfl ?_
    refine own_iconst X150 hx hby at_62 rfl (2 : Int32) rfl ?_
    refine own_icmp_le X150 hx hby at_63 (pcY := 73) (pcN := 66) (by decide) rfl (fun (hc151 : 3 ≤ 2) => False.elim (by exact absurd hc151 (by decide))) (fun (hc151 : 2 < 3) => ?_)
    refine own_aload X150 hx hby at_66 rfl rfl rfl ?_
    refine own_iconst X150 hx hby at_68 rfl (2 : Int32) rfl ?_
    refine own_iload X150 hx hby at_69 rfl rfl ?_
    refine own_i2b X150 hx hby at_71 rfl ?_
    refine own_bastore X150 hx hby hZ x4.toInt8.toInt32 (own_narb _) e150 V150 (by decide) 2 rfl (show 2 < 3 by decide) [(.int x2.toInt8.toInt32), (.int x3.toInt8.toInt32), (.int x4.toInt8.toInt32)] rfl (fits_nar_byte _) N150 ge_b146 at_72 rfl (fun T152 h152 L152 X152 e152 W152 V152 N152 => ?_)
    refine own_iload X152 hx hby at_73 rfl rfl ?_
    refine own_iconst X152 hx hby at_75 rfl (3 : Int32) rfl ?_
    refine own_icmp_le X152 hx hby at_76 (pcY := 86) (pcN := 79) (by decide) rfl (fun (hc153 : 3 ≤ 3) => ?_) (fun (hc153 : 3 < 3) => False.elim (by exact absurd hc153 (by decide)))
    refine own_aload X152 hx hby at_86 rfl rfl rfl ?_
    refine own_aload X152 hx hby at_88 rfl rfl rfl ?_
    have f155 := ((((O.ext E146).wr W148 ge_b146).wr W150 ge_b146).wr W152 ge_b146)
    refine own_virtual X152 hx hby hZ (Cn := "com/example/lyrebird/lyrebird/store/Prefix") (a := r79) (argsL := [(.ref b146)]) (rest := []) hown (hw _ tw_12) (hw _ tw_13) (hw _ tw_15) (hw _ tw_14) (hw _ tw_6) (hw _ tw_16) (by decide) (rm3_3 l Z a0 hw r79 b146 h152 n0 f155 V152 (F79.ext f155.2) (own_nb _) (own_fb _)) (A79.ext f155.2) e152 (by rw [hml]; rfl) pd_2 rfl (by decide) (W := 0) (Nat.le_refl _) (by decide) (by decide) (by decide) at_90 rfl rfl (fun v154 T154 L154 X154 hQ154 => ?_)
    obtain ⟨b154, k154, rfl, N154q, K154, sq154, gq154, V154⟩ := hQ154
    show Ends p.tables e below _ (T154.setTop (mkF m 93 #[.val (.int x0), .val (.int x1), .val (.int x2), .val (.int x3), .val (.int x4), .val (.int x5), .val (.int ((x0 &&& (2147483647 : Int32)) % (15 : Int32))), .val (.ref r79), .val (.int (own_first ((x0 &&& (2147483647 : Int32)) % (15 : Int32)))), .val (.int (3 : Int32)), .val (.ref b146), .unset] [(.ref b154)]))
    refine own_astore X154 hx hby at_93 rfl #[.val (.int x0), .val (.int x1), .val (.int x2), .val (.int x3), .val (.int x4), .val (.int x5), .val (.int ((x0 &&& (2147483647 : Int32)) % (15 : Int32))), .val (.ref r79), .val (.int (own_first ((x0 &&& (2147483647 : Int32)) % (15 : Int32)))), .val (.int (3 : Int32)), .val (.ref b146), .val (.ref b154)] rfl rfl ?_
    refine own_aload X154 hx hby at_95 rfl rfl rfl ?_
    refine own_ifnonnullYes X154 hx hby at_97 (pcY := 102) (by decide) ?_
    refine own_aload X154 hx hby at_102 rfl rfl rfl ?_
    refine own_aload X154 hx hby at_104 rfl rfl rfl ?_
    refine own_acmp_ne X154 hx hby at_106 (pcY := 111) (pcN := 109) (by decide) rfl rfl rfl (fun (hc156 : ¬ ((.ref b154) : Value) = (.ref b146)) => ?_) (fun (hc156 : ((.ref b154) : Value) = (.ref b146)) => False.elim (by exact absurd (Value.ref.inj hc156).symm (Nat.ne_of_lt (Nat.lt_of_lt_of_le V152.lt sq154))))
    refine own_aload X154 hx hby at_111 rfl rfl rfl ?_
    refine own_arraylength X154 hx hby hZ rfl V154 at_113 rfl ?_
    refine own_iload X154 hx hby at_114 rfl rfl ?_
    refine own_iconst X154 hx hby at_116 rfl (1 : Int32) rfl ?_
    refine own_iadd X154 hx hby at_117 rfl ?_
    show Ends p.tables e below _ (T154.setTop (mkF m 118 #[.val (.int x0), .val (.int x1), .val (.int x2), .val (.int x3), .val (.int x4), .val (.int x5), .val (.int ((x0 &&& (2147483647 : Int32)) % (15 : Int32))), .val (.ref r79), .val (.int (own_first ((x0 &&& (2147483647 : Int32)) % (15 : Int32)))), .val (.int (3 : Int32)), .val (.ref b146), .val (.ref b154)] [(.int (4 : Int32)), (.int (4 : Int32))]))
    refine own_icmp_eq X154 hx hby at_118 (pcY := 123) (pcN := 121) (by decide) rfl (fun (hc157 : (4 : Int32) = (4 : Int32)) => ?_) (fun (hc157 : ¬ (4 : Int32) = (4 : Int32)) => False.elim (by exact absurd hc157 (by decide)))
    refine own_aload X154 hx hby at_123 rfl rfl rfl ?_
    refine own_iconst X154 hx hby at_125 rfl (0 : Int32) rfl ?_
    refine own_baload X154 hx hby hZ (own_first ((x0 &&& (2147483647 : Int32)) % (15 : Int32))) rfl V154 (by decide) rfl at_126 rfl ?_
    refine own_iload X154 hx hby at_127 rfl rfl ?_
    refine own_i2b X154 hx hby at_129 rfl ?_
    refine own_icmp_eq X154 hx hby at_130 (pcY := 135) (pcN := 133) (by decide) rfl (fun (hc158 : (own_first ((x0 &&& (2147483647 : Int32)) % (15 : Int32))) = (own_first ((x0 &&& (2147483647 : Int32)) % (15 : Int32))).toInt8.toInt32) => ?_) (fun (hc158 : ¬ (own_first ((x0 &&& (2147483647 : Int32)) % (15 : Int32))) = (own_first ((x0 &&& (2147483647 : Int32)) % (15 : Int32))).toInt8.toInt32) => False.elim (by exact hc158 (own_first_b _).symm))
    refine own_iload X154 hx hby at_135 rfl rfl ?_
    refine own_if_le X154 hx hby at_137 (pcY := 151) (pcN := 140) (by decide) rfl (fun (hc159 : 3 ≤ 0) => False.elim (by exact absurd hc159 (by decide))) (fun (hc159 : 0 < 3) => ?_)
    refine own_aload X154 hx hby at_140 rfl rfl rfl ?_
    refine own_iconst X154 hx hby at_142 rfl (1 : Int32) rfl ?_
    refine own_baload X154 hx hby hZ x2.toInt8.toInt32 rfl V154 (by decide) rfl at_143 rfl ?_
    refine own_iloadN X154 hx hby at_144 rfl rfl ?_
    refine own_i2b X154 hx hby at_145 rfl ?_
    refine own_icmp_eq X154 hx hby at_146 (pcY := 151) (pcN := 149) (by decide) rfl (fun (hc160 : x2.toInt8.toInt32 = x2.toInt8.toInt32) => ?_) (fun (hc160 : ¬ x2.toInt8.toInt32 = x2.toInt8.toInt32) => False.elim (by exact hc160 rfl))
    refine own_iload X154 hx hby at_151 rfl rfl ?_
    refine own_iconst X154 hx hby at_153 rfl (1 : Int32) rfl ?_
    refine own_icmp_le X154 hx hby at_154 (pcY := 168) (pcN := 157) (by decide) rfl (fun (hc161 : 3 ≤ 1) => False.elim (by exact absurd hc161 (by decide))) (fun (hc161 : 1 < 3) => ?_)
    refine own_aload X154 hx hby at_157 rfl rfl rfl ?_
    refine own_iconst X154 hx hby at_159 rfl (2 : Int32) rfl ?_
    refine own_baload X154 hx hby hZ x3.toInt8.toInt32 rfl V154 (by decide) rfl at_160 rfl ?_
    refine own_iloadN X154 hx hby at_161 rfl rfl ?_
    refine own_i2b X154 hx hby at_162 rfl ?_
    refine own_icmp_eq X154 hx hby at_163 (pcY := 168) (pcN := 166) (by decide) rfl (fun (hc162 : x3.toInt8.toInt32 = x3.toInt8.toInt32) => ?_) (fun (hc162 : ¬ x3.toInt8.toInt32 = x3.toInt8.toInt32) => False.elim (by exact hc162 rfl))
    refine own_iload X154 hx hby at_168 rfl rfl ?_
    refine own_iconst X154 hx hby at_170 rfl (2 : Int32) rfl ?_
    refine own_icmp_le X154 hx hby at_171 (pcY := 186) (pcN := 174) (by decide) rfl (fun (hc163 : 3 ≤ 2) => False.elim (by exact absurd hc163 (by decide))) (fun (hc163 : 2 < 3) => ?_)
    refine own_aload X154 hx hby at_174 rfl rfl rfl ?_
    refine own_iconst X154 hx hby at_176 rfl (3 : Int32) rfl ?_
    refine own_baload X154 hx hby hZ x4.toInt8.toInt32 rfl V154 (by decide) rfl at_177 rfl ?_
    refine own_iload X154 hx hby at_178 rfl rfl ?_
    refine own_i2b X154 hx hby at_180 rfl ?_
    refine own_icmp_eq X154 hx hby at_181 (pcY := 186) (pcN := 184) (by decide) rfl (fun (hc164 : x4.toInt8.toInt32 = x4.toInt8.toInt32) => ?_) (fun (hc164 : ¬ x4.toInt8.toInt32 = x4.toInt8.toInt32) => False.elim (by exact hc164 rfl))
    refine own_iload X154 hx hby at_186 rfl rfl ?_
    refine own_iconst X154 hx hby at_188 rfl (3 : Int32) rfl ?_
    refine own_icmp_le X154 hx hby at_189 (pcY := 204) (pcN := 192) (by decide) rfl (fun (hc165 : 3 ≤ 3) => ?_) (fun (hc165 : 3 < 3) => False.elim (by exact absurd hc165 (by decide)))
    refine own_iload X154 hx hby at_204 rfl rfl ?_
    refine own_if_le X154 hx hby at_206 (pcY := 220) (pcN := 209) (by decide) rfl (fun (hc166 : 3 ≤ 0) => False.elim (by exact absurd hc166 (by decide))) (fun (hc166 : 0 < 3) => ?_)
    refine own_aload X154 hx hby at_209 rfl rfl rfl ?_
    refine own_iconst X154 hx hby at_211 rfl (0 : Int32) rfl ?_
    have f167 := (V152.keep K154 nin0)
    refine own_baload X154 hx hby hZ x2.toInt8.toInt32 rfl f167 (by decide) rfl at_212 rfl ?_
    refine own_iloadN X154 hx hby at_213 rfl rfl ?_
    refine own_i2b X154 hx hby at_214 rfl ?_
    refine own_icmp_eq X154 hx hby at_215 (pcY := 220) (pcN := 218) (by decide) rfl (fun (hc168 : x2.toInt8.toInt32 = x2.toInt8.toInt32) => ?_) (fun (hc168 : ¬ x2.toInt8.toInt32 = x2.toInt8.toInt32) => False.elim (by exact hc168 rfl))
    refine own_iload X154 hx hby at_220 rfl rfl ?_
    refine own_iconst X154 hx hby at_222 rfl (1 : Int32) rfl ?_
    refine own_icmp_le X154 hx hby at_223 (pcY := 237) (pcN := 226) (by decide) rfl (fun (hc169 : 3 ≤ 1) => False.elim (by exact absurd hc169 (by decide))) (fun (hc169 : 1 < 3) => ?_)
    refine own_aload X154 hx hby at_226 rfl rfl rfl ?_
    refine own_iconst X154 hx hby at_228 rfl (1 : Int32) rfl ?_
    refine own_baload X154 hx hby hZ x3.toInt8.toInt32 rfl f167 (by decide) rfl at_229 rfl ?_
    refine own_iloadN X154 hx hby at_230 rfl rfl ?_
    refine own_i2b X154 hx hby at_231 rfl ?_
    refine own_icmp_eq X154 hx hby at_232 (pcY := 237) (pcN := 235) (by decide) rfl (fun (hc170 : x3.toInt8.toInt32 = x3.toInt8.toInt32) => ?_) (fun (hc170 : ¬ x3.toInt8.toInt32 = x3.toInt8.toInt32) => False.elim (by exact hc170 rfl))
    refine own_iload X154 hx hby at_237 rfl rfl ?_
    refine own_iconst X154 hx hby at_239 rfl (2 : Int32) rfl ?_
    refine own_icmp_le X154 hx hby at_240 (pcY := 255) (pcN := 243) (by decide) rfl (fun (hc171 : 3 ≤ 2) => False.elim (by exact absurd hc171 (by decide))) (fun (hc171 : 2 < 3) => ?_)
    refine own_aload X154 hx hby at_243 rfl rfl rfl ?_
    refine own_iconst X154 hx hby at_245 rfl (2 : Int32) rfl ?_
    refine own_baload X154 hx hby hZ x4.toInt8.toInt32 rfl f167 (by decide) rfl at_246 rfl ?_
    refine own_iload X154 hx hby at_247 rfl rfl ?_
    refine own_i2b X154 hx hby at_249 rfl ?_
    refine own_icmp_eq X154 hx hby at_250 (pcY := 255) (pcN := 253) (by decide) rfl (fun (hc172 : x4.toInt8.toInt32 = x4.toInt8.toInt32) => ?_) (fun (hc172 : ¬ x4.toInt8.toInt32 = x4.toInt8.toInt32) => False.elim (by exact hc172 rfl))
    refine own_iload X154 hx hby at_255 rfl rfl ?_
    refine own_iconst X154 hx hby at_257 rfl (3 : Int32) rfl ?_
    refine own_icmp_le X154 hx hby at_258 (pcY := 273) (pcN := 261) (by decide) rfl (fun (hc173 : 3 ≤ 3) => ?_) (fun (hc173 : 3 < 3) => False.elim (by exact absurd hc173 (by decide)))
    refine own_iconst X154 hx hby at_273 rfl (1 : Int32) rfl ?_
    refine own_ret X154 hx hby hret hlk at_274 (.int (1 : Int32)) rfl (Or.inl ⟨rfl, by simp, _, rfl⟩) (by decide) (by decide) ?_
    exact ⟨rfl, (Fr.app N152 N154q)⟩
  · -- size 4
    rw [hz]
    show Ends p.tables e below _ (T80.setTop (mkF m 31 #[.val (.int x0), .val (.int x1), .val (.int x2), .val (.int x3), .val (.int x4), .val (.int x5), .val (.int ((x0 &&& (2147483647 : Int32)) % (15 : Int32))), .val (.ref r79), .val (.int (own_first ((x0 &&& (2147483647 : Int32)) % (15 : Int32)))), .val (.int (4 : Int32)), .unset, .unset] []))
    refine own_iload X80 hx hby at_31 rfl rfl ?_
    refine own_newarray X80 hx hby hZ (aty := .byte) (hw _ tw_11) e80 (by decide) 4 (by decide) (by decide) (by decide) (by decide) .byte rfl [(.int (0 : Int32)), (.int (0 : Int32)), (.int (0 : Int32)), (.int (0 : Int32))] rfl at_33 rfl (fun T174 h174 b174 k174 X174 e174 g174 E174 V174 => ?_)
    have ge_b174 : n0 ≤ b174 := own_ge O g174
    refine own_astore X174 hx hby at_35 rfl #[.val (.int x0), .val (.int x1), .val (.int x2), .val (.int x3), .val (.int x4), .val (.int x5), .val (.int ((x0 &&& (2147483647 : Int32)) % (15 : Int32))), .val (.ref r79), .val (.int (own_first ((x0 &&& (2147483647 : Int32)) % (15 : Int32)))), .val (.int (4 : Int32)), .val (.ref b174), .unset] rfl rfl ?_
    refine own_iload X174 hx hby at_37 rfl rfl ?_
    refine own_if_le X174 hx hby at_39 (pcY := 48) (pcN := 42) (by decide) rfl (fun (hc175 : 4 ≤ 0) => False.elim (by exact absurd hc175 (by decide))) (fun (hc175 : 0 < 4) => ?_)
    refine own_aload X174 hx hby at_42 rfl rfl rfl ?_
    refine own_iconst X174 hx hby at_44 rfl (0 : Int32) rfl ?_
    refine own_iloadN X174 hx hby at_45 rfl rfl ?_
    refine own_i2b X174 hx hby at_46 rfl ?_
    refine own_bastore X174 hx hby hZ x2.toInt8.toInt32 (own_narb _) e174 V174 (by decide) 0 rfl (show 0 < 4 by decide) [(.int x2.toInt8.toInt32), (.int (0 : Int32)), (.int (0 : Int32)), (.int (0 : Int32))] rfl (fits_nar_byte _) (Fr.app (Fr.app N0 (Fr.nil _)) (Fr.nil _)) ge_b174 at_47 rfl (fun T176 h176 L176 X176 e176 W176 V176 N176 => ?_)
    refine own_iload X176 hx hby at_48 rfl rfl ?_
    refine own_iconst X176 hx hby at_50 rfl (1 : Int32) rfl ?_
    refine own_icmp_le X176 hx hby at_51 (pcY := 60) (pcN := 54) (by decide) rfl (fun (hc177 : 4 ≤ 1) => False.elim (by exact absurd hc177 (by decide))) (fun (hc177 : 1 < 4) => ?_)
    refine own_aload X176 hx hby at_54 rfl rfl rfl ?_
    refine own_iconst X176 hx hby at_56 rfl (1 : Int32) rfl ?_
    refine own_iloadN X176 hx hby at_57 rfl rfl ?_
    refine own_i2b X176 hx hby at_58 rfl ?_
    refine own_bastore X176 hx hby hZ x3.toInt8.toInt32 (own_narb _) e176 V176 (by decide) 1 rfl (show 1 < 4 by decide) [(.int x2.toInt8.toInt32), (.int x3.toInt8.toInt32), (.int (0 : Int32)), (.int (0 : Int32))] rfl (fits_nar_byte _) N176 ge_b174 at_59 rfl (fun T178 h178 L178 X178 e178 W178 V178 N178 => ?_)
    refine own_iload X178 hx hby at_60 rfl rfl ?_
    refine own_iconst X178 hx hby at_62 rfl (2 : Int32) rfl ?_
    refine own_icmp_le X178 hx hby at_63 (pcY := 73) (pcN := 66) (by decide) rfl (fun (hc179 : 4 ≤ 2) => False.elim (by exact absurd hc179 (by decide))) (fun (hc179 : 2 < 4) => ?_)
    refine own_aload X178 hx hby at_66 rfl rfl rfl ?_
    refine own_iconst X178 hx hby at_68 rfl (2 : Int32) rfl ?_
    refine own_iload X178 hx hby at_69 rfl rfl ?_
    refine own_i2b X178 hx hby at_71 rfl ?_
    refine own_bastore X178 hx hby hZ x4.toInt8.toInt32 (own_narb _) e178 V178 (by decide) 2 rfl (show 2 < 4 by decide) [(.int x2.toInt8.toInt32), (.int x3.toInt8.toInt32), (.int x4.toInt8.toInt32), (.int (0 : Int32))] rfl (fits_nar_byte _) N178 ge_b174 at_72 rfl (fun T180 h180 L180 X180 e180 W180 V180 N180 => ?_)
    refine own_iload X180 hx hby at_73 rfl rfl ?_
    refine own_iconst X180 hx hby at_75 rfl (3 : Int32) rfl ?_
    refine own_icmp_le X180 hx hby at_76 (pcY := 86) (pcN := 79) (by decide) rfl (fun (hc181 : 4 ≤ 3) => False.elim (by exact absurd hc181 (by decide))) (fun (hc181 : 3 < 4) => ?_)
    refine own_aload X180 hx hby at_79 rfl rfl rfl ?_
    refine own_iconst X180 hx hby at_81 rfl (3 : Int32) rfl ?_
    refine own_iload X180 hx hby at_82 rfl rfl ?_
    refine own_i2b X180 hx hby at_84 rfl ?_
    refine own_bastore X180 hx hby hZ x5.toInt8.toInt32 (own_narb _) e180 V180 (by decide) 3 rfl (show 3 < 4 by decide) [(.int x2.toInt8.toInt32), (.int x3.toInt8.toInt32), (.int x4.toInt8.toInt32), (.int x5.toInt8.toInt32)] rfl (fits_nar_byte _) N180 ge_b174 at_85 rfl (fun T182 h182 L182 X182 e182 W182 V182 N182 => ?_)
    refine own_aload X182 hx hby at_86 rfl rfl rfl ?_
    refine own_aload X182 hx hby at_88 rfl rfl rfl ?_
    have f184 := (((((O.ext E174).wr W176 ge_b174).wr W178 ge_b174).wr W180 ge_b174).wr W182 ge_b174)
    refine own_virtual X182 hx hby hZ (Cn := "com/example/lyrebird/lyrebird/store/Prefix") (a := r79) (argsL := [(.ref b174)]) (rest := []) hown (hw _ tw_12) (hw _ tw_13) (hw _ tw_15) (hw _ tw_14) (hw _ tw_6) (hw _ tw_16) (by decide) (rm3_4 l Z a0 hw r79 b174 h182 n0 f184 V182 (F79.ext f184.2) (own_nb _) (own_fb _)) (A79.ext f184.2) e182 (by rw [hml]; rfl) pd_2 rfl (by decide) (W := 0) (Nat.le_refl _) (by decide) (by decide) (by decide) at_90 rfl rfl (fun v183 T183 L183 X183 hQ183 => ?_)
    obtain ⟨b183, k183, rfl, N183q, K183, sq183, gq183, V183⟩ := hQ183
    show Ends p.tables e below _ (T183.setTop (mkF m 93 #[.val (.int x0), .val (.int x1), .val (.int x2), .val (.int x3), .val (.int x4), .val (.int x5), .val (.int ((x0 &&& (2147483647 : Int32)) % (15 : Int32))), .val (.ref r79), .val (.int (own_first ((x0 &&& (2147483647 : Int32)) % (15 : Int32)))), .val (.int (4 : Int32)), .val (.ref b174), .unset] [(.ref b183)]))
    refine own_astore X183 hx hby at_93 rfl #[.val (.int x0), .val (.int x1), .val (.int x2), .val (.int x3), .val (.int x4), .val (.int x5), .val (.int ((x0 &&& (2147483647 : Int32)) % (15 : Int32))), .val (.ref r79), .val (.int (own_first ((x0 &&& (2147483647 : Int32)) % (15 : Int32)))), .val (.int (4 : Int32)), .val (.ref b174), .val (.ref b183)] rfl rfl ?_
    refine own_aload X183 hx hby at_95 rfl rfl rfl ?_
    refine own_ifnonnullYes X183 hx hby at_97 (pcY := 102) (by decide) ?_
    refine own_aload X183 hx hby at_102 rfl rfl rfl ?_
    refine own_aload X183 hx hby at_104 rfl rfl rfl ?_
    refine own_acmp_ne X183 hx hby at_106 (pcY := 111) (pcN := 109) (by decide) rfl rfl rfl (fun (hc185 : ¬ ((.ref b183) : Value) = (.ref b174)) => ?_) (fun (hc185 : ((.ref b183) : Value) = (.ref b174)) => False.elim (by exact absurd (Value.ref.inj hc185).symm (Nat.ne_of_lt (Nat.lt_of_lt_of_le V182.lt sq183))))
    refine own_aload X183 hx hby at_111 rfl rfl rfl ?_
    refine own_arraylength X183 hx hby hZ rfl V183 at_113 rfl ?_
    refine own_iload X183 hx hby at_114 rfl rfl ?_
    refine own_iconst X183 hx hby at_116 rfl (1 : Int32) rfl ?_
    refine own_iadd X183 hx hby at_117 rfl ?_
    show Ends p.tables e below _ (T183.setTop (mkF m 118 #[.val (.int x0), .val (.int x1), .val (.int x2), .val (.int x3), .val (.int x4), .val (.int x5), .val (.int ((x0 &&& (2147483647 : Int32)) % (15 : Int32))), .val (.ref r79), .val (.int (own_first ((x0 &&& (2147483647 : Int32)) % (15 : Int32)))), .val (.int (4 : Int32)), .val (.ref b174), .val (.ref b183)] [(.int (5 : Int32)), (.int (5 : Int32))]))
    refine own_icmp_eq X183 hx hby at_118 (pcY := 123) (pcN := 121) (by decide) rfl (fun (hc186 : (5 : Int32) = (5 : Int32)) => ?_) (fun (hc186 : ¬ (5 : Int32) = (5 : Int32)) => False.elim (by exact absurd hc186 (by decide)))
    refine own_aload X183 hx hby at_123 rfl rfl rfl ?_
    refine own_iconst X183 hx hby at_125 rfl (0 : Int32) rfl ?_
    refine own_baload X183 hx hby hZ (own_first ((x0 &&& (2147483647 : Int32)) % (15 : Int32))) rfl V183 (by decide) rfl at_126 rfl ?_
    refine own_iload X183 hx hby at_127 rfl rfl ?_
    refine own_i2b X183 hx hby at_129 rfl ?_
    refine own_icmp_eq X183 hx hby at_130 (pcY := 135) (pcN := 133) (by decide) rfl (fun (hc187 : (own_first ((x0 &&& (2147483647 : Int32)) % (15 : Int32))) = (own_first ((x0 &&& (2147483647 : Int32)) % (15 : Int32))).toInt8.toInt32) => ?_) (fun (hc187 : ¬ (own_first ((x0 &&& (2147483647 : Int32)) % (15 : Int32))) = (own_first ((x0 &&& (2147483647 : Int32)) % (15 : Int32))).toInt8.toInt32) => False.elim (by exact hc187 (own_first_b _).symm))
    refine own_iload X183 hx hby at_135 rfl rfl ?_
    refine own_if_le X183 hx hby at_137 (pcY := 151) (pcN := 140) (by decide) rfl (fun (hc188 : 4 ≤ 0) => False.elim (by exact absurd hc188 (by decide))) (fun (hc188 : 0 < 4) => ?_)
    refine own_aload X183 hx hby at_140 rfl rfl rfl ?_
    refine own_iconst X183 hx hby at_142 rfl (1 : Int32) rfl ?_
    refine own_baload X183 hx hby hZ x2.toInt8.toInt32 rfl V183 (by decide) rfl at_143 rfl ?_
    refine own_iloadN X183 hx hby at_144 rfl rfl ?_
    refine own_i2b X183 hx hby at_145 rfl ?_
    refine own_icmp_eq X183 hx hby at_146 (pcY := 151) (pcN := 149) (by decide) rfl (fun (hc189 : x2.toInt8.toInt32 = x2.toInt8.toInt32) => ?_) (fun (hc189 : ¬ x2.toInt8.toInt32 = x2.toInt8.toInt32) => False.elim (by exact hc189 rfl))
    refine own_iload X183 hx hby at_151 rfl rfl ?_
    refine own_iconst X183 hx hby at_153 rfl (1 : Int32) rfl ?_
    refine own_icmp_le X183 hx hby at_154 (pcY := 168) (pcN := 157) (by decide) rfl (fun (hc190 : 4 ≤ 1) => False.elim (by exact absurd hc190 (by decide))) (fun (hc190 : 1 < 4) => ?_)
    refine own_aload X183 hx hby at_157 rfl rfl rfl ?_
    refine own_iconst X183 hx hby at_159 rfl (2 : Int32) rfl ?_
    refine own_baload X183 hx hby hZ x3.toInt8.toInt32 rfl V183 (by decide) rfl at_160 rfl ?_
    refine own_iloadN X183 hx hby at_161 rfl rfl ?_
    refine own_i2b X183 hx hby at_162 rfl ?_
    refine own_icmp_eq X183 hx hby at_163 (pcY := 168) (pcN := 166) (by decide) rfl (fun (hc191 : x3.toInt8.toInt32 = x3.toInt8.toInt32) => ?_) (fun (hc191 : ¬ x3.toInt8.toInt32 = x3.toInt8.toInt32) => False.elim (by exact hc191 rfl))
    refine own_iload X183 hx hby at_168 rfl rfl ?_
    refine own_iconst X183 hx hby at_170 rfl (2 : Int32) rfl ?_
    refine own_icmp_le X183 hx hby at_171 (pcY := 186) (pcN := 174) (by decide) rfl (fun (hc192 : 4 ≤ 2) => False.elim (by exact absurd hc192 (by decide))) (fun (hc192 : 2 < 4) => ?_)
    refine own_aload X183 hx hby at_174 rfl rfl rfl ?_
    refine own_iconst X183 hx hby at_176 rfl (3 : Int32) rfl ?_
    refine own_baload X183 hx hby hZ x4.toInt8.toInt32 rfl V183 (by decide) rfl at_177 rfl ?_
    refine own_iload X183 hx hby at_178 rfl rfl ?_
    refine own_i2b X183 hx hby at_180 rfl ?_
    refine own_icmp_eq X183 hx hby at_181 (pcY := 186) (pcN := 184) (by decide) rfl (fun (hc193 : x4.toInt8.toInt32 = x4.toInt8.toInt32) => ?_) (fun (hc193 : ¬ x4.toInt8.toInt32 = x4.toInt8.toInt32) => False.elim (by exact hc193 rfl))
    refine own_iload X183 hx hby at_186 rfl rfl ?_
    refine own_iconst X183 hx hby at_188 rfl (3 : Int32) rfl ?_
    refine own_icmp_le X183 hx hby at_189 (pcY := 204) (pcN := 192) (by decide) rfl (fun (hc194 : 4 ≤ 3) => False.elim (by exact absurd hc194 (by decide))) (fun (hc194 : 3 < 4) => ?_)
    refine own_aload X183 hx hby at_192 rfl rfl rfl ?_
    refine own_iconst X183 hx hby at_194 rfl (4 : Int32) rfl ?_
    refine own_baload X183 hx hby hZ x5.toInt8.toInt32 rfl V183 (by decide) rfl at_195 rfl ?_
    refine own_iload X183 hx hby at_196 rfl rfl ?_
    refine own_i2b X183 hx hby at_198 rfl ?_
    refine own_icmp_eq X183 hx hby at_199 (pcY := 204) (pcN := 202) (by decide) rfl (fun (hc195 : x5.toInt8.toInt32 = x5.toInt8.toInt32) => ?_) (fun (hc195 : ¬ x5.toInt8.toInt32 = x5.toInt8.toInt32) => False.elim (by exact hc195 rfl))
    refine own_iload X183 hx hby at_204 rfl rfl ?_
    refine own_if_le X183 hx hby at_206 (pcY := 220) (pcN := 209) (by decide) rfl (fun (hc196 : 4 ≤ 0) => False.elim (by exact absurd hc196 (by decide))) (fun (hc196 : 0 < 4) => ?_)
    refine own_aload X183 hx hby at_209 rfl rfl rfl ?_
    refine own_iconst X183 hx hby at_211 rfl (0 : Int32) rfl ?_
    have f197 := (V182.keep K183 nin0)
    refine own_baload X183 hx hby hZ x2.toInt8.toInt32 rfl f197 (by decide) rfl at_212 rfl ?_
    refine own_iloadN X183 hx hby at_213 rfl rfl ?_
    refine own_i2b X183 hx hby at_214 rfl ?_
    refine own_icmp_eq X183 hx hby at_215 (pcY := 220) (pcN := 218) (by decide) rfl (fun (hc198 : x2.toInt8.toInt32 = x2.toInt8.toInt32) => ?_) (fun (hc198 : ¬ x2.toInt8.toInt32 = x2.toInt8.toInt32) => False.elim (by exact hc198 rfl))
    refine own_iload X183 hx hby at_220 rfl rfl ?_
    refine own_iconst X183 hx hby at_222 rfl (1 : Int32) rfl ?_
    refine own_icmp_le X183 hx hby at_223 (pcY := 237) (pcN := 226) (by decide) rfl (fun (hc199 : 4 ≤ 1) => False.elim (by exact absurd hc199 (by decide))) (fun (hc199 : 1 < 4) => ?_)
    refine own_aload X183 hx hby at_226 rfl rfl rfl ?_
    refine own_iconst X183 hx hby at_228 rfl (1 : Int32) rfl ?_
    refine own_baload X183 hx hby hZ x3.toInt8.toInt32 rfl f197 (by decide) rfl at_229 rfl ?_
    refine own_iloadN X183 hx hby at_230 rfl rfl ?_
    refine own_i2b X183 hx hby at_231 rfl ?_
    refine own_icmp_eq X183 hx hby at_232 (pcY := 237) (pcN := 235) (by decide) rfl (fun (hc200 : x3.toInt8.toInt32 = x3.toInt8.toInt32) => ?_) (fun (hc200 : ¬ x3.toInt8.toInt32 = x3.toInt8.toInt32) => False.elim (by exact hc200 rfl))
    refine own_iload X183 hx hby at_237 rfl rfl ?_
    refine own_iconst X183 hx hby at_239 rfl (2 : Int32) rfl ?_
    refine own_icmp_le X183 hx hby at_240 (pcY := 255) (pcN := 243) (by decide) rfl (fun (hc201 : 4 ≤ 2) => False.elim (by exact absurd hc201 (by decide))) (fun (hc201 : 2 < 4) => ?_)
    refine own_aload X183 hx hby at_243 rfl rfl rfl ?_
    refine own_iconst X183 hx hby at_245 rfl (2 : Int32) rfl ?_
    refine own_baload X183 hx hby hZ x4.toInt8.toInt32 rfl f197 (by decide) rfl at_246 rfl ?_
    refine own_iload X183 hx hby at_247 rfl rfl ?_
    refine own_i2b X183 hx hby at_249 rfl ?_
    refine own_icmp_eq X183 hx hby at_250 (pcY := 255) (pcN := 253) (by decide) rfl (fun (hc202 : x4.toInt8.toInt32 = x4.toInt8.toInt32) => ?_) (fun (hc202 : ¬ x4.toInt8.toInt32 = x4.toInt8.toInt32) => False.elim (by exact hc202 rfl))
    refine own_iload X183 hx hby at_255 rfl rfl ?_
    refine own_iconst X183 hx hby at_257 rfl (3 : Int32) rfl ?_
    refine own_icmp_le X183 hx hby at_258 (pcY := 273) (pcN := 261) (by decide) rfl (fun (hc203 : 4 ≤ 3) => False.elim (by exact absurd hc203 (by decide))) (fun (hc203 : 3 < 4) => ?_)
    refine own_aload X183 hx hby at_261 rfl rfl rfl ?_
    refine own_iconst X183 hx hby at_263 rfl (3 : Int32) rfl ?_
    refine own_baload X183 hx hby hZ x5.toInt8.toInt32 rfl f197 (by decide) rfl at_264 rfl ?_
    refine own_iload X183 hx hby at_265 rfl rfl ?_
    refine own_i2b X183 hx hby at_267 rfl ?_
    refine own_icmp_eq X183 hx hby at_268 (pcY := 273) (pcN := 271) (by decide) rfl (fun (hc204 : x5.toInt8.toInt32 = x5.toInt8.toInt32) => ?_) (fun (hc204 : ¬ x5.toInt8.toInt32 = x5.toInt8.toInt32) => False.elim (by exact hc204 rfl))
    refine own_iconst X183 hx hby at_273 rfl (1 : Int32) rfl ?_
    refine own_ret X183 hx hby hret hlk at_274 (.int (1 : Int32)) rfl (Or.inl ⟨rfl, by simp, _, rfl⟩) (by decide) (by decide) ?_
    exact ⟨rfl, (Fr.app N182 N183q)⟩
set_option maxRecDepth 65536 in
set_option maxHeartbeats 40000000 in
theorem comes_1 {Post : Tables → Env → Array Value → State → Outcome → State → Prop} (hpost : ∀ tb e args s v u, (limb_1_1.after args s (.returned v) u = true ∧ limb_1_2.after args s (.returned v) u = true ∧ True) → FrameEnd s (.returned v) u (Jvm.fieldLocs frame_1_writes args s ++ Jvm.arrayLocs frame_1_arrays args s ++ Jvm.staticLocs frame_1_statics s) 16 128 → Post tb e args s (.returned v) u) :
    ArmFor flags0 classFile x code maxLocals ret World_1 tables_1 room_1 Calls_1 rest_1 Pre_1 Post := by
  intro l hfl _ _ p e ha hc hk s m args below hf hA hF happ hP
  obtain ⟨hcalls, hrest, hpre⟩ := hP
  obtain ⟨-, -, -, hnamed, -, -, -, hat⟩ := (Spec.applies_iff hf).mp happ
  obtain ⟨hg, hn⟩ := and_e (Cond.before_iff.mp (show (Jvm.Cond.and given_1 narrow_1).before args s = true from hpre))
  obtain ⟨hcount, hg0⟩ := and_e hg
  obtain ⟨hv0, hg1⟩ := and_e hg0
  obtain ⟨hv1, hg2⟩ := and_e hg1
  obtain ⟨hv2, hg3⟩ := and_e hg2
  obtain ⟨hv3, hg4⟩ := and_e hg3
  obtain ⟨hv4, hg5⟩ := and_e hg4
  have hv5 := hg5
  obtain ⟨w0, w1, w2, w3, w4, w5, rfl⟩ : ∃ w0 w1 w2 w3 w4 w5 : Value, args = #[w0, w1, w2, w3, w4, w5] := by
    have hs : args.size = 6 := by simpa [Cond.value, given_1] using hcount
    obtain ⟨L⟩ := args
    match L, hs with
    | [w0, w1, w2, w3, w4, w5], _ => exact ⟨w0, w1, w2, w3, w4, w5, rfl⟩
  have hw := fun d (hd : d ∈ tables_1) => atoms_spec (ws := Jvm.Cond.code x code maxLocals ret :: tables_1) hat d (List.mem_cons_of_mem _ hd)
  have hfit : Fit s := fun {y c} hc i hi => by
    obtain ⟨ha, rfl⟩ := Array.getElem?_eq_some_iff.mp hc
    have q := List.all_eq_true.mp ((Array.all_eq_true_iff_forall_mem.mp hF) _ (Array.getElem_mem ha)) i (List.mem_range.mpr hi)
    simpa [Array.getElem?_eq_getElem hi] using q
  obtain ⟨i0, ei0⟩ := is_v hv0
  obtain rfl : w0 = (.int i0) := Option.some.inj ei0
  obtain ⟨i1, ei1⟩ := is_v hv1
  obtain rfl : w1 = (.int i1) := Option.some.inj ei1
  obtain ⟨i2, ei2⟩ := is_v hv2
  obtain rfl : w2 = (.int i2) := Option.some.inj ei2
  obtain ⟨i3, ei3⟩ := is_v hv3
  obtain rfl : w3 = (.int i3) := Option.some.inj ei3
  obtain ⟨i4, ei4⟩ := is_v hv4
  obtain rfl : w4 = (.int i4) := Option.some.inj ei4
  obtain ⟨i5, ei5⟩ := is_v hv5
  obtain rfl : w5 = (.int i5) := Option.some.inj ei5
  obtain ⟨n0, hn0⟩ := and_e hn
  obtain ⟨n1, hn1⟩ := and_e hn0
  obtain ⟨n2, hn2⟩ := and_e hn1
  obtain ⟨n3, hn3⟩ := and_e hn2
  obtain ⟨n4, hn4⟩ := and_e hn3
  obtain ⟨n5, hn5⟩ := and_e hn4
  obtain ⟨n6, hn6⟩ := and_e hn5
  obtain ⟨n7, hn7⟩ := and_e hn6
  obtain ⟨n8, hn8⟩ := and_e hn7
  obtain ⟨n9, hn9⟩ := and_e hn8
  obtain ⟨n10, hn10⟩ := and_e hn9
  obtain ⟨n11, hn11⟩ := and_e hn10
  obtain ⟨n12, hn12⟩ := and_e hn11
  obtain ⟨n13, hn13⟩ := and_e hn12
  obtain ⟨n14, hn14⟩ := and_e hn13
  obtain ⟨n15, hn15⟩ := and_e hn14
  obtain ⟨n16, hn16⟩ := and_e hn15
  obtain ⟨n17, hn17⟩ := and_e hn16
  obtain ⟨n18, hn18⟩ := and_e hn17
  obtain ⟨n19, hn19⟩ := and_e hn18
  obtain ⟨n20, hn20⟩ := and_e hn19
  obtain ⟨n21, hn21⟩ := and_e hn20
  obtain ⟨n22, hn22⟩ := and_e hn21
  obtain ⟨n23, hn23⟩ := and_e hn22
  obtain ⟨n24, hn24⟩ := and_e hn23
  obtain ⟨n25, hn25⟩ := and_e hn24
  obtain ⟨n26, hn26⟩ := and_e hn25
  obtain ⟨n27, hn27⟩ := and_e hn26
  obtain ⟨n28, hn28⟩ := and_e hn27
  have n29 := hn28
  obtain ⟨a_PROBE, ev_PROBE⟩ := exa_v n0
  have S_PROBE : Sta s s.heap "com/example/lyrebird/lyrebird/store/Prefix" "PROBE" "Lcom/example/lyrebird/lyrebird/store/Prefix;" (.ref a_PROBE) := Sta.start ev_PROBE (Or.inr ⟨(hw _ tw_6), (hw _ tw_7)⟩)
  have E_PROBE : Exa s s.heap a_PROBE "com/example/lyrebird/lyrebird/store/Prefix" := Exa.start ev_PROBE n0
  have F_PROBE_first : Fld s s.heap a_PROBE "com/example/lyrebird/lyrebird/store/Prefix" "first" "B" (.int (0 : Int32)) := Fld.start ((fld_at ev_PROBE).symm.trans (eqv_i (Term.int_eval _) n1))
  obtain ⟨a_LAST_VERSION, ev_LAST_VERSION⟩ := exa_v n2
  have S_LAST_VERSION : Sta s s.heap "com/example/lyrebird/lyrebird/store/Prefix" "LAST_VERSION" "Lcom/example/lyrebird/lyrebird/store/Prefix;" (.ref a_LAST_VERSION) := Sta.start ev_LAST_VERSION (Or.inr ⟨(hw _ tw_6), (hw _ tw_24)⟩)
  have E_LAST_VERSION : Exa s s.heap a_LAST_VERSION "com/example/lyrebird/lyrebird/store/Prefix" := Exa.start ev_LAST_VERSION n2
  have F_LAST_VERSION_first : Fld s s.heap a_LAST_VERSION "com/example/lyrebird/lyrebird/store/Prefix" "first" "B" (.int (115 : Int32)) := Fld.start ((fld_at ev_LAST_VERSION).symm.trans (eqv_i (Term.int_eval _) n3))
  obtain ⟨a_VERSION, ev_VERSION⟩ := exa_v n4
  have S_VERSION : Sta s s.heap "com/example/lyrebird/lyrebird/store/Prefix" "VERSION" "Lcom/example/lyrebird/lyrebird/store/Prefix;" (.ref a_VERSION) := Sta.start ev_VERSION (Or.inr ⟨(hw _ tw_6), (hw _ tw_26)⟩)
  have E_VERSION : Exa s s.heap a_VERSION "com/example/lyrebird/lyrebird/store/Prefix" := Exa.start ev_VERSION n4
  have F_VERSION_first : Fld s s.heap a_VERSION "com/example/lyrebird/lyrebird/store/Prefix" "first" "B" (.int (118 : Int32)) := Fld.start ((fld_at ev_VERSION).symm.trans (eqv_i (Term.int_eval _) n5))
  obtain ⟨a_LAST_MESSAGE, ev_LAST_MESSAGE⟩ := exa_v n6
  have S_LAST_MESSAGE : Sta s s.heap "com/example/lyrebird/lyrebird/store/Prefix" "LAST_MESSAGE" "Lcom/example/lyrebird/lyrebird/store/Prefix;" (.ref a_LAST_MESSAGE) := Sta.start ev_LAST_MESSAGE (Or.inr ⟨(hw _ tw_6), (hw _ tw_28)⟩)
  have E_LAST_MESSAGE : Exa s s.heap a_LAST_MESSAGE "com/example/lyrebird/lyrebird/store/Prefix" := Exa.start ev_LAST_MESSAGE n6
  have F_LAST_MESSAGE_first : Fld s s.heap a_LAST_MESSAGE "com/example/lyrebird/lyrebird/store/Prefix" "first" "B" (.int (78 : Int32)) := Fld.start ((fld_at ev_LAST_MESSAGE).symm.trans (eqv_i (Term.int_eval _) n7))
  obtain ⟨a_EPHEMERAL, ev_EPHEMERAL⟩ := exa_v n8
  have S_EPHEMERAL : Sta s s.heap "com/example/lyrebird/lyrebird/store/Prefix" "EPHEMERAL" "Lcom/example/lyrebird/lyrebird/store/Prefix;" (.ref a_EPHEMERAL) := Sta.start ev_EPHEMERAL (Or.inr ⟨(hw _ tw_6), (hw _ tw_30)⟩)
  have E_EPHEMERAL : Exa s s.heap a_EPHEMERAL "com/example/lyrebird/lyrebird/store/Prefix" := Exa.start ev_EPHEMERAL n8
  have F_EPHEMERAL_first : Fld s s.heap a_EPHEMERAL "com/example/lyrebird/lyrebird/store/Prefix" "first" "B" (.int (101 : Int32)) := Fld.start ((fld_at ev_EPHEMERAL).symm.trans (eqv_i (Term.int_eval _) n9))
  obtain ⟨a_MESSAGE_END, ev_MESSAGE_END⟩ := exa_v n10
  have S_MESSAGE_END : Sta s s.heap "com/example/lyrebird/lyrebird/store/Prefix" "MESSAGE_END" "Lcom/example/lyrebird/lyrebird/store/Prefix;" (.ref a_MESSAGE_END) := Sta.start ev_MESSAGE_END (Or.inr ⟨(hw _ tw_6), (hw _ tw_32)⟩)
  have E_MESSAGE_END : Exa s s.heap a_MESSAGE_END "com/example/lyrebird/lyrebird/store/Prefix" := Exa.start ev_MESSAGE_END n10
  have F_MESSAGE_END_first : Fld s s.heap a_MESSAGE_END "com/example/lyrebird/lyrebird/store/Prefix" "first" "B" (.int (69 : Int32)) := Fld.start ((fld_at ev_MESSAGE_END).symm.trans (eqv_i (Term.int_eval _) n11))
  obtain ⟨a_CHUNK, ev_CHUNK⟩ := exa_v n12
  have S_CHUNK : Sta s s.heap "com/example/lyrebird/lyrebird/store/Prefix" "CHUNK" "Lcom/example/lyrebird/lyrebird/store/Prefix;" (.ref a_CHUNK) := Sta.start ev_CHUNK (Or.inr ⟨(hw _ tw_6), (hw _ tw_34)⟩)
  have E_CHUNK : Exa s s.heap a_CHUNK "com/example/lyrebird/lyrebird/store/Prefix" := Exa.start ev_CHUNK n12
  have F_CHUNK_first : Fld s s.heap a_CHUNK "com/example/lyrebird/lyrebird/store/Prefix" "first" "B" (.int (107 : Int32)) := Fld.start ((fld_at ev_CHUNK).symm.trans (eqv_i (Term.int_eval _) n13))
  obtain ⟨a_QUEUE, ev_QUEUE⟩ := exa_v n14
  have S_QUEUE : Sta s s.heap "com/example/lyrebird/lyrebird/store/Prefix" "QUEUE" "Lcom/example/lyrebird/lyrebird/store/Prefix;" (.ref a_QUEUE) := Sta.start ev_QUEUE (Or.inr ⟨(hw _ tw_6), (hw _ tw_36)⟩)
  have E_QUEUE : Exa s s.heap a_QUEUE "com/example/lyrebird/lyrebird/store/Prefix" := Exa.start ev_QUEUE n14
  have F_QUEUE_first : Fld s s.heap a_QUEUE "com/example/lyrebird/lyrebird/store/Prefix" "first" "B" (.int (81 : Int32)) := Fld.start ((fld_at ev_QUEUE).symm.trans (eqv_i (Term.int_eval _) n15))
  obtain ⟨a_SESSION, ev_SESSION⟩ := exa_v n16
  have S_SESSION : Sta s s.heap "com/example/lyrebird/lyrebird/store/Prefix" "SESSION" "Lcom/example/lyrebird/lyrebird/store/Prefix;" (.ref a_SESSION) := Sta.start ev_SESSION (Or.inr ⟨(hw _ tw_6), (hw _ tw_38)⟩)
  have E_SESSION : Exa s s.heap a_SESSION "com/example/lyrebird/lyrebird/store/Prefix" := Exa.start ev_SESSION n16
  have F_SESSION_first : Fld s s.heap a_SESSION "com/example/lyrebird/lyrebird/store/Prefix" "first" "B" (.int (83 : Int32)) := Fld.start ((fld_at ev_SESSION).symm.trans (eqv_i (Term.int_eval _) n17))
  obtain ⟨a_DELETED_NODE, ev_DELETED_NODE⟩ := exa_v n18
  have S_DELETED_NODE : Sta s s.heap "com/example/lyrebird/lyrebird/store/Prefix" "DELETED_NODE" "Lcom/example/lyrebird/lyrebird/store/Prefix;" (.ref a_DELETED_NODE) := Sta.start ev_DELETED_NODE (Or.inr ⟨(hw _ tw_6), (hw _ tw_40)⟩)
  have E_DELETED_NODE : Exa s s.heap a_DELETED_NODE "com/example/lyrebird/lyrebird/store/Prefix" := Exa.start ev_DELETED_NODE n18
  have F_DELETED_NODE_first : Fld s s.heap a_DELETED_NODE "com/example/lyrebird/lyrebird/store/Prefix" "first" "B" (.int (100 : Int32)) := Fld.start ((fld_at ev_DELETED_NODE).symm.trans (eqv_i (Term.int_eval _) n19))
  obtain ⟨a_CLAIM, ev_CLAIM⟩ := exa_v n20
  have S_CLAIM : Sta s s.heap "com/example/lyrebird/lyrebird/store/Prefix" "CLAIM" "Lcom/example/lyrebird/lyrebird/store/Prefix;" (.ref a_CLAIM) := Sta.start ev_CLAIM (Or.inr ⟨(hw _ tw_6), (hw _ tw_42)⟩)
  have E_CLAIM : Exa s s.heap a_CLAIM "com/example/lyrebird/lyrebird/store/Prefix" := Exa.start ev_CLAIM n20
  have F_CLAIM_first : Fld s s.heap a_CLAIM "com/example/lyrebird/lyrebird/store/Prefix" "first" "B" (.int (67 : Int32)) := Fld.start ((fld_at ev_CLAIM).symm.trans (eqv_i (Term.int_eval _) n21))
  obtain ⟨a_NODE, ev_NODE⟩ := exa_v n22
  have S_NODE : Sta s s.heap "com/example/lyrebird/lyrebird/store/Prefix" "NODE" "Lcom/example/lyrebird/lyrebird/store/Prefix;" (.ref a_NODE) := Sta.start ev_NODE (Or.inr ⟨(hw _ tw_6), (hw _ tw_44)⟩)
  have E_NODE : Exa s s.heap a_NODE "com/example/lyrebird/lyrebird/store/Prefix" := Exa.start ev_NODE n22
  have F_NODE_first : Fld s s.heap a_NODE "com/example/lyrebird/lyrebird/store/Prefix" "first" "B" (.int (110 : Int32)) := Fld.start ((fld_at ev_NODE).symm.trans (eqv_i (Term.int_eval _) n23))
  obtain ⟨a_COUNTER, ev_COUNTER⟩ := exa_v n24
  have S_COUNTER : Sta s s.heap "com/example/lyrebird/lyrebird/store/Prefix" "COUNTER" "Lcom/example/lyrebird/lyrebird/store/Prefix;" (.ref a_COUNTER) := Sta.start ev_COUNTER (Or.inr ⟨(hw _ tw_6), (hw _ tw_46)⟩)
  have E_COUNTER : Exa s s.heap a_COUNTER "com/example/lyrebird/lyrebird/store/Prefix" := Exa.start ev_COUNTER n24
  have F_COUNTER_first : Fld s s.heap a_COUNTER "com/example/lyrebird/lyrebird/store/Prefix" "first" "B" (.int (99 : Int32)) := Fld.start ((fld_at ev_COUNTER).symm.trans (eqv_i (Term.int_eval _) n25))
  obtain ⟨a_MESSAGE, ev_MESSAGE⟩ := exa_v n26
  have S_MESSAGE : Sta s s.heap "com/example/lyrebird/lyrebird/store/Prefix" "MESSAGE" "Lcom/example/lyrebird/lyrebird/store/Prefix;" (.ref a_MESSAGE) := Sta.start ev_MESSAGE (Or.inr ⟨(hw _ tw_6), (hw _ tw_48)⟩)
  have E_MESSAGE : Exa s s.heap a_MESSAGE "com/example/lyrebird/lyrebird/store/Prefix" := Exa.start ev_MESSAGE n26
  have F_MESSAGE_first : Fld s s.heap a_MESSAGE "com/example/lyrebird/lyrebird/store/Prefix" "first" "B" (.int (77 : Int32)) := Fld.start ((fld_at ev_MESSAGE).symm.trans (eqv_i (Term.int_eval _) n27))
  obtain ⟨a_UPLOAD, ev_UPLOAD⟩ := exa_v n28
  have S_UPLOAD : Sta s s.heap "com/example/lyrebird/lyrebird/store/Prefix" "UPLOAD" "Lcom/example/lyrebird/lyrebird/store/Prefix;" (.ref a_UPLOAD) := Sta.start ev_UPLOAD (Or.inr ⟨(hw _ tw_6), (hw _ tw_50)⟩)
  have E_UPLOAD : Exa s s.heap a_UPLOAD "com/example/lyrebird/lyrebird/store/Prefix" := Exa.start ev_UPLOAD n28
  have F_UPLOAD_first : Fld s s.heap a_UPLOAD "com/example/lyrebird/lyrebird/store/Prefix" "first" "B" (.int (117 : Int32)) := Fld.start ((fld_at ev_UPLOAD).symm.trans (eqv_i (Term.int_eval _) n29))
  have G : OwnG s a_PROBE a_LAST_VERSION a_VERSION a_LAST_MESSAGE a_EPHEMERAL a_MESSAGE_END a_CHUNK a_QUEUE a_SESSION a_DELETED_NODE a_CLAIM a_NODE a_COUNTER a_MESSAGE a_UPLOAD := ⟨S_PROBE, E_PROBE, F_PROBE_first, S_LAST_VERSION, E_LAST_VERSION, F_LAST_VERSION_first, S_VERSION, E_VERSION, F_VERSION_first, S_LAST_MESSAGE, E_LAST_MESSAGE, F_LAST_MESSAGE_first, S_EPHEMERAL, E_EPHEMERAL, F_EPHEMERAL_first, S_MESSAGE_END, E_MESSAGE_END, F_MESSAGE_END_first, S_CHUNK, E_CHUNK, F_CHUNK_first, S_QUEUE, E_QUEUE, F_QUEUE_first, S_SESSION, E_SESSION, F_SESSION_first, S_DELETED_NODE, E_DELETED_NODE, F_DELETED_NODE_first, S_CLAIM, E_CLAIM, F_CLAIM_first, S_NODE, E_NODE, F_NODE_first, S_COUNTER, E_COUNTER, F_COUNTER_first, S_MESSAGE, E_MESSAGE, F_MESSAGE_first, S_UPLOAD, E_UPLOAD, F_UPLOAD_first⟩
  obtain ⟨n, o, h1, h2, h3, _, L, rfl, ⟨rfl, N⟩, hq⟩ := rm0 l s _ hw i0 i1 i2 i3 i4 i5 s.heap s.heap.size G (Old.start s) p e ha hc hk s m _ below hf ((Spec.applies_iff_loose hf).mp happ).1 ⟨rfl, State.Warmed39.refl s, rfl⟩ trivial
  refine ⟨n, _, h1, h2, h3, hpost _ _ _ _ _ _ ⟨Cond.after_iff.mpr rfl, Cond.after_iff.mpr (eq_i res_at (Term.int_eval (1)) rfl), trivial⟩ ⟨hq.1, hq.2.1, (hq.2.2.sift fun y hy => Or.inr (N y hy)).mono (by decide) (by decide)⟩⟩
theorem main_1_1 : Claimed_1_1 := comes_1 fun _ _ _ _ _ _ h hF => ⟨h.1, hF⟩
theorem main_1_2 : Claimed_1_2 := comes_1 fun _ _ _ _ _ _ h hF => ⟨h.2.1, hF⟩
end Jvm.Pilot.@@N@@
namespace Jvm.Pilot.@@N@@
open Jvm Jvm.ClassFile Sem Op Lib Jvm.Free Jvm.Stand Jvm.Pilot.@@N@@.Jvm.D
/-! MADE BY PROGRAM (witnessworld.py) out of the Statement's table words and the real class files: 13 classes; the members and pool entries that the words name. The judged class is class 1, her method 3. -/
namespace start1
open Jvm.ClassFile
def u (s : String) : CpInfo := .utf8 (stringToUtf16 s)
/-- a pool by its gaps: so many unusable entries, then the entry; so many at the end -/
def gap : Nat → List CpInfo → List CpInfo
  | 0, r => r
  | n + 1, r => .unusable :: gap n r
def poolList (es : List (Nat × CpInfo)) (last : Nat) : List CpInfo := es.foldr (fun e r => gap e.1 (e.2 :: r)) (gap last [])
def pool (es : List (Nat × CpInfo)) (last : Nat) : Array CpInfo := ⟨poolList es last⟩
def fileOf (pool : Array CpInfo) (this : Nat) (attrs : Array Attribute := #[]) (ms : Array MethodInfo := #[]) (fl : Nat := 33) (sup : Nat := 0) (ifs : Array Nat := #[]) (fds : Array FieldInfo := #[]) : ClassFile where
  minorVersion := 0
  majorVersion := 65
  constantPool := pool
  accessFlags := fl
  thisClass := this
  superClass := sup
  interfaces := ifs
  fields := fds
  methods := ms
  attributes := attrs
def plain (name : String) (sup : Option ClassId) : Class where
  name := name
  kind := .ordinary
  loader := none
  accessFlags := 33
  super := sup
  interfaces := #[]
  cf := none
  fields := #[]
  methods := #[]
  instanceTypes := #[]
  staticTypes := #[]
  resolved := #[]
  callSites := []
  init := .initialized
  statics := none
  mirror := none

def pool0 : Array CpInfo := pool [(5, u "<init>"), (0, u "()V"), (1, .class_ 10), (1, u "java/lang/Object")] 113

def k0m0 : Method := { name := "<init>", desc := "()V", sig := { parameters := [], returnType := none }, accessFlags := 1, code := none }
/-- java/lang/Object -/
def k0 : Class := { plain "java/lang/Object" none with
  accessFlags := 33
  interfaces := #[]
  cf := some (fileOf pool0 8 #[] #[{ accessFlags := 1, nameIndex := 5, descriptorIndex := 6, attributes := #[] }] 33 0 #[] #[])
  fields := #[]
  methods := #[k0m0]
  instanceTypes := #[]
  staticTypes := #[]
  resolved := Array.replicate 124 none
  statics := none }

def pool1 : Array CpInfo := pool [(2, .class_ 4), (1, u "java/lang/Object"), (0, u "<init>"), (0, u "()V"), (0, .fieldref 8 9), (0, .class_ 10), (0, .nameAndType 11 12), (0, u "com/example/lyrebird/lyrebird/store/Prefix"), (0, u "PROBE"), (0, u "Lcom/example/lyrebird/lyrebird/store/Prefix;"), (0, .fieldref 8 14), (0, .nameAndType 15 12), (0, u "NODE"), (0, .fieldref 8 17), (0, .nameAndType 18 12), (0, u "DELETED_NODE"), (0, .fieldref 8 20), (0, .nameAndType 21 12), (0, u "VERSION"), (0, .fieldref 8 23), (0, .nameAndType 24 12), (0, u "LAST_VERSION"), (0, .fieldref 8 26), (0, .nameAndType 27 12), (0, u "EPHEMERAL"), (0, .fieldref 8 29), (0, .nameAndType 30 12), (0, u "COUNTER"), (0, .fieldref 8 32), (0, .nameAndType 33 12), (0, u "SESSION"), (0, .fieldref 8 35), (0, .nameAndType 36 12), (0, u "UPLOAD"), (0, .fieldref 8 38), (0, .nameAndType 39 12), (0, u "CHUNK"), (0, .fieldref 8 41), (0, .nameAndType 42 12), (0, u "QUEUE"), (0, .fieldref 8 44), (0, .nameAndType 45 12), (0, u "MESSAGE"), (0, .fieldref 8 47), (0, .nameAndType 48 12), (0, u "MESSAGE_END"), (0, .fieldref 8 50), (0, .nameAndType 51 12), (0, u "LAST_MESSAGE"), (0, .fieldref 8 53), (0, .nameAndType 54 12), (0, u "CLAIM"), (0, .integer 2147483647), (0, .methodref 57 58), (0, .class_ 59), (0, .nameAndType 60 61), (0, u "com/example/lyrebird/lyrebird/store/PrefixKeyPinLaw"), (0, u "pick"), (0, u "(I)Lcom/example/lyrebird/lyrebird/store/Prefix;"), (0, .methodref 57 63), (0, .nameAndType 64 65), (0, u "firstOf"), (0, u "(I)I"), (0, .methodref 8 67), (0, .nameAndType 68 69), (0, u "key"), (0, u "([B)[B"), (3, u "law"), (0, u "(IIIIII)Z")] 4

def k1m0 : Method := { name := "<init>", desc := "()V", sig := { parameters := [], returnType := none }, accessFlags := 1, code := none }
def k1c1 : Code := { maxStack := 2, maxLocals := 1, code := method_2_code, exceptionTable := #[], attributes := #[] }
def k1m1 : Method := { name := "pick", desc := "(I)Lcom/example/lyrebird/lyrebird/store/Prefix;", sig := { parameters := [.int], returnType := some (.object "com/example/lyrebird/lyrebird/store/Prefix") }, accessFlags := 10, code := some k1c1 }
def k1c2 : Code := { maxStack := 2, maxLocals := 1, code := method_3_code, exceptionTable := #[], attributes := #[] }
def k1m2 : Method := { name := "firstOf", desc := "(I)I", sig := { parameters := [.int], returnType := some .int }, accessFlags := 10, code := some k1c2 }
def k1c3 : Code := { maxStack := 3, maxLocals := 12, code := code, exceptionTable := #[], attributes := #[] }
def k1m3 : Method := { name := "law", desc := "(IIIIII)Z", sig := { parameters := [.int, .int, .int, .int, .int, .int], returnType := some .boolean }, accessFlags := 9, code := some k1c3 }
/-- com/example/lyrebird/lyrebird/store/PrefixKeyPinLaw -/
def k1 : Class := { plain "com/example/lyrebird/lyrebird/store/PrefixKeyPinLaw" (some 0) with
  accessFlags := 49
  interfaces := #[]
  cf := some (fileOf pool1 57 #[] #[{ accessFlags := 1, nameIndex := 5, descriptorIndex := 6, attributes := #[] }, { accessFlags := 10, nameIndex := 60, descriptorIndex := 61, attributes := #[] }, { accessFlags := 10, nameIndex := 64, descriptorIndex := 65, attributes := #[] }, { accessFlags := 9, nameIndex := 73, descriptorIndex := 74, attributes := #[] }] 49 2 #[] #[])
  fields := #[]
  methods := #[k1m0, k1m1, k1m2, k1m3]
  instanceTypes := #[]
  staticTypes := #[]
  resolved := Array.replicate 79 none
  statics := none }

def pool2 : Array CpInfo := pool [(1, .class_ 2), (0, u "java/lang/constant/Constable"), (0, .class_ 4), (0, u "java/lang/Object")] 6

/-- java/lang/constant/Constable -/
def k2 : Class := { plain "java/lang/constant/Constable" (some 0) with
  accessFlags := 1537
  interfaces := #[]
  cf := some (fileOf pool2 1 #[] #[] 1537 3 #[] #[])
  fields := #[]
  methods := #[]
  instanceTypes := #[]
  staticTypes := #[]
  resolved := Array.replicate 11 none
  statics := none }

def pool3 : Array CpInfo := pool [(1, .class_ 2), (0, u "java/lang/Comparable"), (0, .class_ 4), (0, u "java/lang/Object")] 7

/-- java/lang/Comparable -/
def k3 : Class := { plain "java/lang/Comparable" (some 0) with
  accessFlags := 1537
  interfaces := #[]
  cf := some (fileOf pool3 1 #[] #[] 1537 3 #[] #[])
  fields := #[]
  methods := #[]
  instanceTypes := #[]
  staticTypes := #[]
  resolved := Array.replicate 12 none
  statics := none }

def pool4 : Array CpInfo := pool [(1, .class_ 2), (0, u "java/io/Serializable"), (0, .class_ 4), (0, u "java/lang/Object")] 2

/-- java/io/Serializable -/
def k4 : Class := { plain "java/io/Serializable" (some 0) with
  accessFlags := 1537
  interfaces := #[]
  cf := some (fileOf pool4 1 #[] #[] 1537 3 #[] #[])
  fields := #[]
  methods := #[]
  instanceTypes := #[]
  staticTypes := #[]
  resolved := Array.replicate 7 none
  statics := none }

def pool5 : Array CpInfo := pool [(2, .class_ 4), (1, u "java/lang/Enum"), (0, u "name"), (0, u "Ljava/lang/String;"), (2, u "ordinal"), (0, u "I"), (1, .class_ 14), (1, u "java/lang/Object"), (4, u "hash"), (86, .class_ 108), (1, u "java/lang/Enum$EnumDesc"), (2, .class_ 112), (0, u "java/lang/constant/Constable"), (0, .class_ 114), (0, u "java/lang/Comparable"), (0, .class_ 116), (0, u "java/io/Serializable")] 87

/-- java/lang/Enum -/
def k5 : Class := { plain "java/lang/Enum" (some 0) with
  accessFlags := 1057
  interfaces := #[2, 3, 4]
  cf := some (fileOf pool5 2 #[.nestMembers #[106]] #[] 1057 12 #[111, 113, 115] #[{ accessFlags := 18, nameIndex := 5, descriptorIndex := 6, attributes := #[] }, { accessFlags := 18, nameIndex := 9, descriptorIndex := 10, attributes := #[] }, { accessFlags := 2, nameIndex := 19, descriptorIndex := 10, attributes := #[] }])
  fields := #[{ name := "name", type := (.object "java/lang/String"), accessFlags := 18, slot := 0, constantValue := 0 }, { name := "ordinal", type := .int, accessFlags := 18, slot := 1, constantValue := 0 }, { name := "hash", type := .int, accessFlags := 2, slot := 2, constantValue := 0 }]
  methods := #[]
  instanceTypes := #[(.object "java/lang/String"), .int, .int]
  staticTypes := #[]
  resolved := Array.replicate 204 none
  statics := none }

def pool6 : Array CpInfo := pool [(1, .class_ 2), (0, u "com/example/lyrebird/lyrebird/store/Prefix"), (2, u "PROBE"), (0, u "Lcom/example/lyrebird/lyrebird/store/Prefix;"), (2, u "NODE"), (2, u "DELETED_NODE"), (2, u "VERSION"), (2, u "LAST_VERSION"), (2, u "EPHEMERAL"), (2, u "COUNTER"), (2, u "SESSION"), (2, u "UPLOAD"), (2, u "CHUNK"), (2, u "QUEUE"), (2, u "MESSAGE"), (2, u "MESSAGE_END"), (2, u "LAST_MESSAGE"), (2, u "CLAIM"), (2, u "$VALUES"), (0, u "[Lcom/example/lyrebird/lyrebird/store/Prefix;"), (6, .class_ 61), (1, u "java/lang/Enum"), (6, .fieldref 1 69), (0, .nameAndType 70 71), (0, u "first"), (0, u "B"), (15, u "([B)[B"), (8, u "key"), (0, .methodref 98 99), (0, .class_ 100), (0, .nameAndType 101 102), (0, u "java/lang/System"), (0, u "arraycopy"), (0, u "(Ljava/lang/Object;ILjava/lang/Object;II)V")] 37

def k6c0 : Code := { maxStack := 5, maxLocals := 3, code := prog_10_method_7_code, exceptionTable := #[], attributes := #[] }
def k6m0 : Method := { name := "key", desc := "([B)[B", sig := { parameters := [(.array .byte)], returnType := some (.array .byte) }, accessFlags := 1, code := some k6c0 }
/-- com/example/lyrebird/lyrebird/store/Prefix -/
def k6 : Class := { plain "com/example/lyrebird/lyrebird/store/Prefix" (some 5) with
  accessFlags := 16433
  interfaces := #[]
  cf := some (fileOf pool6 1 #[] #[{ accessFlags := 1, nameIndex := 96, descriptorIndex := 87, attributes := #[] }] 16433 59 #[] #[{ accessFlags := 16409, nameIndex := 5, descriptorIndex := 6, attributes := #[] }, { accessFlags := 16409, nameIndex := 9, descriptorIndex := 6, attributes := #[] }, { accessFlags := 16409, nameIndex := 12, descriptorIndex := 6, attributes := #[] }, { accessFlags := 16409, nameIndex := 15, descriptorIndex := 6, attributes := #[] }, { accessFlags := 16409, nameIndex := 18, descriptorIndex := 6, attributes := #[] }, { accessFlags := 16409, nameIndex := 21, descriptorIndex := 6, attributes := #[] }, { accessFlags := 16409, nameIndex := 24, descriptorIndex := 6, attributes := #[] }, { accessFlags := 16409, nameIndex := 27, descriptorIndex := 6, attributes := #[] }, { accessFlags := 16409, nameIndex := 30, descriptorIndex := 6, attributes := #[] }, { accessFlags := 16409, nameIndex := 33, descriptorIndex := 6, attributes := #[] }, { accessFlags := 16409, nameIndex := 36, descriptorIndex := 6, attributes := #[] }, { accessFlags := 16409, nameIndex := 39, descriptorIndex := 6, attributes := #[] }, { accessFlags := 16409, nameIndex := 42, descriptorIndex := 6, attributes := #[] }, { accessFlags := 16409, nameIndex := 45, descriptorIndex := 6, attributes := #[] }, { accessFlags := 16409, nameIndex := 48, descriptorIndex := 6, attributes := #[] }, { accessFlags := 18, nameIndex := 70, descriptorIndex := 71, attributes := #[] }, { accessFlags := 4122, nameIndex := 51, descriptorIndex := 52, attributes := #[] }])
  fields := #[{ name := "PROBE", type := (.object "com/example/lyrebird/lyrebird/store/Prefix"), accessFlags := 16409, slot := 0, constantValue := 0 }, { name := "NODE", type := (.object "com/example/lyrebird/lyrebird/store/Prefix"), accessFlags := 16409, slot := 1, constantValue := 0 }, { name := "DELETED_NODE", type := (.object "com/example/lyrebird/lyrebird/store/Prefix"), accessFlags := 16409, slot := 2, constantValue := 0 }, { name := "VERSION", type := (.object "com/example/lyrebird/lyrebird/store/Prefix"), accessFlags := 16409, slot := 3, constantValue := 0 }, { name := "LAST_VERSION", type := (.object "com/example/lyrebird/lyrebird/store/Prefix"), accessFlags := 16409, slot := 4, constantValue := 0 }, { name := "EPHEMERAL", type := (.object "com/example/lyrebird/lyrebird/store/Prefix"), accessFlags := 16409, slot := 5, constantValue := 0 }, { name := "COUNTER", type := (.object "com/example/lyrebird/lyrebird/store/Prefix"), accessFlags := 16409, slot := 6, constantValue := 0 }, { name := "SESSION", type := (.object "com/example/lyrebird/lyrebird/store/Prefix"), accessFlags := 16409, slot := 7, constantValue := 0 }, { name := "UPLOAD", type := (.object "com/example/lyrebird/lyrebird/store/Prefix"), accessFlags := 16409, slot := 8, constantValue := 0 }, { name := "CHUNK", type := (.object "com/example/lyrebird/lyrebird/store/Prefix"), accessFlags := 16409, slot := 9, constantValue := 0 }, { name := "QUEUE", type := (.object "com/example/lyrebird/lyrebird/store/Prefix"), accessFlags := 16409, slot := 10, constantValue := 0 }, { name := "MESSAGE", type := (.object "com/example/lyrebird/lyrebird/store/Prefix"), accessFlags := 16409, slot := 11, constantValue := 0 }, { name := "MESSAGE_END", type := (.object "com/example/lyrebird/lyrebird/store/Prefix"), accessFlags := 16409, slot := 12, constantValue := 0 }, { name := "LAST_MESSAGE", type := (.object "com/example/lyrebird/lyrebird/store/Prefix"), accessFlags := 16409, slot := 13, constantValue := 0 }, { name := "CLAIM", type := (.object "com/example/lyrebird/lyrebird/store/Prefix"), accessFlags := 16409, slot := 14, constantValue := 0 }, { name := "first", type := .byte, accessFlags := 18, slot := 3, constantValue := 0 }, { name := "$VALUES", type := (.array (.object "com/example/lyrebird/lyrebird/store/Prefix")), accessFlags := 4122, slot := 15, constantValue := 0 }]
  methods := #[k6m0]
  instanceTypes := #[(.object "java/lang/String"), .int, .int, .byte]
  staticTypes := #[(.object "com/example/lyrebird/lyrebird/store/Prefix"), (.object "com/example/lyrebird/lyrebird/store/Prefix"), (.object "com/example/lyrebird/lyrebird/store/Prefix"), (.object "com/example/lyrebird/lyrebird/store/Prefix"), (.object "com/example/lyrebird/lyrebird/store/Prefix"), (.object "com/example/lyrebird/lyrebird/store/Prefix"), (.object "com/example/lyrebird/lyrebird/store/Prefix"), (.object "com/example/lyrebird/lyrebird/store/Prefix"), (.object "com/example/lyrebird/lyrebird/store/Prefix"), (.object "com/example/lyrebird/lyrebird/store/Prefix"), (.object "com/example/lyrebird/lyrebird/store/Prefix"), (.object "com/example/lyrebird/lyrebird/store/Prefix"), (.object "com/example/lyrebird/lyrebird/store/Prefix"), (.object "com/example/lyrebird/lyrebird/store/Prefix"), (.object "com/example/lyrebird/lyrebird/store/Prefix"), (.array (.object "com/example/lyrebird/lyrebird/store/Prefix"))]
  resolved := Array.replicate 140 none
  statics := some 0 }

def pool7 : Array CpInfo := pool [(2, .class_ 4), (1, u "java/lang/Object"), (0, u "<init>"), (0, u "()V"), (1, .class_ 10), (1, u "java/lang/System"), (0, u "allowSecurityManager"), (0, u "I"), (16, u "cons"), (0, u "Ljava/io/Console;"), (77, .class_ 110), (1, u "java/lang/System$CallersHolder"), (43, u "initialErrStream"), (0, u "Ljava/io/PrintStream;"), (19, u "security"), (0, u "Ljava/lang/SecurityManager;"), (31, .class_ 209), (0, u "java/lang/System$1"), (7, u "props"), (0, u "Ljava/util/Properties;"), (2, u "lineSeparator"), (0, u "Ljava/lang/String;"), (96, .class_ 321), (1, u "java/lang/System$LoggerFinder"), (5, .class_ 328), (0, u "java/lang/System$Logger"), (67, u "err"), (2, u "out"), (91, u "notSupportedJnuEncoding"), (15, u "in"), (17, u "initialIn"), (0, u "Ljava/io/InputStream;"), (35, u "bootLayer"), (0, u "Ljava/lang/ModuleLayer;"), (99, .class_ 664), (0, u "java/lang/System$2"), (9, u "NEVER"), (2, u "MAYBE"), (49, u "arraycopy"), (0, u "(Ljava/lang/Object;ILjava/lang/Object;II)V"), (72, .class_ 802), (0, u "java/lang/System$Logger$Level")] 31

def k7m0 : Method := { name := "<init>", desc := "()V", sig := { parameters := [], returnType := none }, accessFlags := 2, code := none }
def k7m1 : Method := { name := "arraycopy", desc := "(Ljava/lang/Object;ILjava/lang/Object;II)V", sig := { parameters := [(.object "java/lang/Object"), .int, (.object "java/lang/Object"), .int, .int], returnType := none }, accessFlags := 265, code := none }
/-- java/lang/System -/
def k7 : Class := { plain "java/lang/System" (some 0) with
  accessFlags := 49
  interfaces := #[]
  cf := some (fileOf pool7 8 #[.nestMembers #[319, 327, 801, 108, 663, 208]] #[{ accessFlags := 2, nameIndex := 5, descriptorIndex := 6, attributes := #[] }, { accessFlags := 265, nameIndex := 727, descriptorIndex := 728, attributes := #[] }] 49 2 #[] #[{ accessFlags := 25, nameIndex := 507, descriptorIndex := 526, attributes := #[] }, { accessFlags := 25, nameIndex := 399, descriptorIndex := 155, attributes := #[] }, { accessFlags := 25, nameIndex := 396, descriptorIndex := 155, attributes := #[] }, { accessFlags := 10, nameIndex := 525, descriptorIndex := 526, attributes := #[] }, { accessFlags := 26, nameIndex := 674, descriptorIndex := 12, attributes := #[] }, { accessFlags := 26, nameIndex := 677, descriptorIndex := 12, attributes := #[] }, { accessFlags := 10, nameIndex := 11, descriptorIndex := 12, attributes := #[] }, { accessFlags := 74, nameIndex := 175, descriptorIndex := 176, attributes := #[] }, { accessFlags := 10, nameIndex := 491, descriptorIndex := 222, attributes := #[] }, { accessFlags := 74, nameIndex := 29, descriptorIndex := 30, attributes := #[] }, { accessFlags := 74, nameIndex := 154, descriptorIndex := 155, attributes := #[] }, { accessFlags := 10, nameIndex := 217, descriptorIndex := 218, attributes := #[] }, { accessFlags := 10, nameIndex := 221, descriptorIndex := 222, attributes := #[] }, { accessFlags := 8, nameIndex := 562, descriptorIndex := 563, attributes := #[] }])
  fields := #[{ name := "in", type := (.object "java/io/InputStream"), accessFlags := 25, slot := 0, constantValue := 0 }, { name := "out", type := (.object "java/io/PrintStream"), accessFlags := 25, slot := 1, constantValue := 0 }, { name := "err", type := (.object "java/io/PrintStream"), accessFlags := 25, slot := 2, constantValue := 0 }, { name := "initialIn", type := (.object "java/io/InputStream"), accessFlags := 10, slot := 3, constantValue := 0 }, { name := "NEVER", type := .int, accessFlags := 26, slot := 4, constantValue := 0 }, { name := "MAYBE", type := .int, accessFlags := 26, slot := 5, constantValue := 0 }, { name := "allowSecurityManager", type := .int, accessFlags := 10, slot := 6, constantValue := 0 }, { name := "security", type := (.object "java/lang/SecurityManager"), accessFlags := 74, slot := 7, constantValue := 0 }, { name := "notSupportedJnuEncoding", type := (.object "java/lang/String"), accessFlags := 10, slot := 8, constantValue := 0 }, { name := "cons", type := (.object "java/io/Console"), accessFlags := 74, slot := 9, constantValue := 0 }, { name := "initialErrStream", type := (.object "java/io/PrintStream"), accessFlags := 74, slot := 10, constantValue := 0 }, { name := "props", type := (.object "java/util/Properties"), accessFlags := 10, slot := 11, constantValue := 0 }, { name := "lineSeparator", type := (.object "java/lang/String"), accessFlags := 10, slot := 12, constantValue := 0 }, { name := "bootLayer", type := (.object "java/lang/ModuleLayer"), accessFlags := 8, slot := 13, constantValue := 0 }]
  methods := #[k7m0, k7m1]
  instanceTypes := #[]
  staticTypes := #[(.object "java/io/InputStream"), (.object "java/io/PrintStream"), (.object "java/io/PrintStream"), (.object "java/io/InputStream"), .int, .int, .int, (.object "java/lang/SecurityManager"), (.object "java/lang/String"), (.object "java/io/Console"), (.object "java/io/PrintStream"), (.object "java/util/Properties"), (.object "java/lang/String"), (.object "java/lang/ModuleLayer")]
  resolved := Array.replicate 834 none
  statics := none }

def pool8 : Array CpInfo := pool [(1, u "java/lang/Cloneable"), (0, .class_ 1), (0, u "java/lang/Object"), (0, .class_ 3)] 3

/-- java/lang/Cloneable -/
def k8 : Class := { plain "java/lang/Cloneable" (some 0) with
  accessFlags := 1537
  interfaces := #[]
  cf := some (fileOf pool8 2 #[] #[] 1537 4 #[] #[])
  fields := #[]
  methods := #[]
  instanceTypes := #[]
  staticTypes := #[]
  resolved := Array.replicate 8 none
  statics := none }

/-- the primitive byte -/
def k9 : Class := { plain "byte" none with kind := .primitive 'B', accessFlags := 0x411 }
/-- [B -/
def k10 : Class := { plain "[B" (some 0) with kind := .array 9 .byte, interfaces := #[8, 4], accessFlags := 1041 }

/-- the primitive int -/
def k11 : Class := { plain "int" none with kind := .primitive 'I', accessFlags := 0x411 }
/-- [I -/
def k12 : Class := { plain "[I" (some 0) with kind := .array 11 .int, interfaces := #[8, 4], accessFlags := 1041 }

def heap : Heap := #[{ cls := 6, slots := #[.ref 1, .ref 12, .ref 10, .ref 3, .ref 2, .ref 5, .ref 13, .ref 9, .ref 15, .ref 7, .ref 8, .ref 14, .ref 6, .ref 4, .ref 11, .null], vm := .statics 6 },
  { cls := 6, slots := #[.null, .int 0, .int 0, .int 0], vm := .none },
  { cls := 6, slots := #[.null, .int 0, .int 0, .int 115], vm := .none },
  { cls := 6, slots := #[.null, .int 0, .int 0, .int 118], vm := .none },
  { cls := 6, slots := #[.null, .int 0, .int 0, .int 78], vm := .none },
  { cls := 6, slots := #[.null, .int 0, .int 0, .int 101], vm := .none },
  { cls := 6, slots := #[.null, .int 0, .int 0, .int 69], vm := .none },
  { cls := 6, slots := #[.null, .int 0, .int 0, .int 107], vm := .none },
  { cls := 6, slots := #[.null, .int 0, .int 0, .int 81], vm := .none },
  { cls := 6, slots := #[.null, .int 0, .int 0, .int 83], vm := .none },
  { cls := 6, slots := #[.null, .int 0, .int 0, .int 100], vm := .none },
  { cls := 6, slots := #[.null, .int 0, .int 0, .int 67], vm := .none },
  { cls := 6, slots := #[.null, .int 0, .int 0, .int 110], vm := .none },
  { cls := 6, slots := #[.null, .int 0, .int 0, .int 99], vm := .none },
  { cls := 6, slots := #[.null, .int 0, .int 0, .int 77], vm := .none },
  { cls := 6, slots := #[.null, .int 0, .int 0, .int 117], vm := .none }]
def classes : Array Class := #[k0, k1, k2, k3, k4, k5, k6, k7, k8, k9, k10, k11, k12]
def interned : List (Array UInt16 × Addr) := []
def slotsUsed : Nat := 76
def theMethod : MethodId := ⟨1, 3⟩
def args0 : Array Value := #[.int 5, .int 5, .int 5, .int 5, .int 5, .int 5]
def aboutOver (below : List Frame) : State where
  vm := { classes := classes, interned := interned.toArray }
  heap := heap
  slotsUsed := slotsUsed
  threads := #[{ frames := .invoking theMethod args0 :: below }]
def below0 : List Frame := [.native { method := ⟨0, 0⟩, args := #[] }]
def about1 : State := aboutOver below0
def p0 : Program := .bare "" "" ""
def e0 : Env := launch0.env 0 0 0
theorem w_frames : about1.frames = Frame.invoking theMethod args0 :: below0 := rfl
set_option maxRecDepth 65536 in
theorem w_args : argsFit about1.vm theMethod args0 = true := by decide +kernel
set_option maxRecDepth 65536 in
theorem w_heap : heapFits about1 = true := by decide +kernel
set_option maxRecDepth 65536 in
theorem w_runnable : about1.curStatus? = some .runnable := by decide +kernel
set_option maxRecDepth 65536 in
theorem w_alone : about1.alone = true := by decide +kernel
set_option maxRecDepth 65536 in
theorem w_named : about1.methodNamed? x = some theMethod := by decide +kernel
set_option maxRecDepth 65536 in
theorem w_hears : about1.hears theMethod below0 = true := by decide +kernel
set_option maxRecDepth 65536 in
theorem w_ripe : about1.ripe theMethod args0 below0 = true := by decide +kernel
theorem w_running : about1.status = .running := rfl
set_option maxRecDepth 65536 in
theorem w_room : about1.hasRoom e0.platform room_1 = true :=
  launch0.hasRoom_least _ room_1 (by decide +kernel) (by decide +kernel) (by decide +kernel) (by decide +kernel) (by decide +kernel) (by decide +kernel)
theorem allAtoms_all (ts : List Jvm.Cond) (a : Array Jvm.Value) (st : Jvm.State) : (allAtoms ts).before a st = ts.all (fun c => c.before a st) := by
  induction ts with
  | nil => rfl
  | cons c t ih =>
    show (Jvm.Cond.and c (allAtoms t)).before a st = _
    rw [Jvm.Cond.before_and, ih, List.all_cons]
def words1 : List Jvm.Cond := Jvm.Cond.code x code maxLocals ret :: tables_1
/-- a 'code' word, met by the world's own term for the bytes: nothing is compared byte by byte -/
theorem code_word {y : MethodName} {bytes : ByteArray} {mx : Nat} {rt : Option FieldType} {a : Array Value} {s : State} {m : MethodId} {meth : Method} {c : Code} (h1 : s.methodNamed? y = some m) (h2 : s.vm.method? m = some meth) (h3 : meth.code = some c) (h4 : c.code = bytes)
    (h5 : (c.maxLocals == mx && c.exceptionTable.isEmpty && decide (c.maxStack ≤ mostOperands) && decide (meth.sig.returnType = rt) && !meth.locks && decide (parseMethodDescriptor y.desc = some meth.sig)) = true) : (Jvm.Cond.code y bytes mx rt).before a s = true := by
  simp only [Bool.and_eq_true, beq_iff_eq, Bool.not_eq_true', decide_eq_true_eq] at h5
  obtain ⟨⟨⟨⟨⟨g1, g2⟩, g3⟩, g4⟩, g5⟩, g6⟩ := h5
  simp [Cond.before, Cond.holds, Cond.value, h1, h2, h3, h4, g1, g2, g3, g4, g5, g6]
def isCode : Jvm.Cond → Bool
  | .code _ _ _ _ => true
  | _ => false
theorem all_split {L : List Jvm.Cond} {P : Jvm.Cond → Bool} (h1 : L.all (fun c => isCode c || P c) = true) (h2 : ∀ c ∈ L.filter isCode, P c = true) : L.all P = true := by
  refine List.all_eq_true.mpr fun c hc => ?_
  have h := List.all_eq_true.mp h1 c hc
  rcases Bool.eq_false_or_eq_true (isCode c) with hi | hi
  · exact h2 c (List.mem_filter.mpr ⟨hc, hi⟩)
  · simpa [hi] using h
set_option maxRecDepth 65536 in
theorem w_c0 : (Jvm.Cond.code x code maxLocals ret).before args0 about1 = true := code_word (m := ⟨1, 3⟩) (meth := k1m3) (c := k1c3) (by decide +kernel) rfl rfl rfl (by decide +kernel)
set_option maxRecDepth 65536 in
theorem w_c1 : (Jvm.Cond.code ({ cls := "com/example/lyrebird/lyrebird/store/PrefixKeyPinLaw", name := "pick", desc := "(I)Lcom/example/lyrebird/lyrebird/store/Prefix;" } : Jvm.MethodName) method_2_code (1 : Nat) (Option.some (Jvm.ClassFile.FieldType.object "com/example/lyrebird/lyrebird/store/Prefix"))).before args0 about1 = true := code_word (m := ⟨1, 1⟩) (meth := k1m1) (c := k1c1) (by decide +kernel) rfl rfl rfl (by decide +kernel)
set_option maxRecDepth 65536 in
theorem w_c2 : (Jvm.Cond.code ({ cls := "com/example/lyrebird/lyrebird/store/PrefixKeyPinLaw", name := "firstOf", desc := "(I)I" } : Jvm.MethodName) method_3_code (1 : Nat) (Option.some Jvm.ClassFile.FieldType.int)).before args0 about1 = true := code_word (m := ⟨1, 2⟩) (meth := k1m2) (c := k1c2) (by decide +kernel) rfl rfl rfl (by decide +kernel)
set_option maxRecDepth 65536 in
theorem w_c3 : (Jvm.Cond.code ({ cls := "com/example/lyrebird/lyrebird/store/Prefix", name := "key", desc := "([B)[B" } : Jvm.MethodName) prog_10_method_7_code (3 : Nat) (Option.some (Jvm.ClassFile.FieldType.array Jvm.ClassFile.FieldType.byte))).before args0 about1 = true := code_word (m := ⟨6, 0⟩) (meth := k6m0) (c := k6c0) (by decide +kernel) rfl rfl rfl (by decide +kernel)
def codes1 : List Jvm.Cond := [Jvm.Cond.code x code maxLocals ret, Jvm.Cond.code ({ cls := "com/example/lyrebird/lyrebird/store/PrefixKeyPinLaw", name := "pick", desc := "(I)Lcom/example/lyrebird/lyrebird/store/Prefix;" } : Jvm.MethodName) method_2_code (1 : Nat) (Option.some (Jvm.ClassFile.FieldType.object "com/example/lyrebird/lyrebird/store/Prefix")), Jvm.Cond.code ({ cls := "com/example/lyrebird/lyrebird/store/PrefixKeyPinLaw", name := "firstOf", desc := "(I)I" } : Jvm.MethodName) method_3_code (1 : Nat) (Option.some Jvm.ClassFile.FieldType.int), Jvm.Cond.code ({ cls := "com/example/lyrebird/lyrebird/store/Prefix", name := "key", desc := "([B)[B" } : Jvm.MethodName) prog_10_method_7_code (3 : Nat) (Option.some (Jvm.ClassFile.FieldType.array Jvm.ClassFile.FieldType.byte))]
set_option maxRecDepth 65536 in
theorem codes_eq : words1.filter isCode = codes1 := rfl
theorem w_codes : ∀ c ∈ words1.filter isCode, c.before args0 about1 = true := by
  rw [codes_eq]
  intro c hc
  simp only [codes1, List.mem_cons, List.not_mem_nil, or_false] at hc
  rcases hc with rfl | rfl | rfl | rfl
  · exact w_c0
  · exact w_c1
  · exact w_c2
  · exact w_c3
set_option maxRecDepth 65536 in
theorem w_t1 : (words1.take 24).all (fun c => isCode c || c.before args0 about1) = true := by decide +kernel
set_option maxRecDepth 65536 in
theorem w_t2 : ((words1.drop 24).take 24).all (fun c => isCode c || c.before args0 about1) = true := by decide +kernel
set_option maxRecDepth 65536 in
theorem w_t3 : ((words1.drop 24).drop 24).all (fun c => isCode c || c.before args0 about1) = true := by decide +kernel
theorem w_tables : (allAtoms (Jvm.Cond.code x code maxLocals ret :: tables_1)).before args0 about1 = true := by
  rw [allAtoms_all]
  show words1.all (fun c => c.before args0 about1) = true
  refine all_split ?_ w_codes
  rw [← List.take_append_drop 24 words1, List.all_append, w_t1, ← List.take_append_drop 24 (words1.drop 24), List.all_append, w_t2, w_t3]
  rfl
set_option maxRecDepth 65536 in
theorem w_case : (Jvm.Cond.and given_1 narrow_1).before args0 about1 = true := by decide +kernel
theorem w_applies : (headSpec (Jvm.Cond.code x code maxLocals ret :: tables_1) room_1).applies x e0.platform about1 = true :=
  (Spec.applies_iff w_frames).mpr ⟨w_running, w_runnable, w_alone, w_named, w_hears, w_ripe, w_room, w_tables⟩
theorem atStart : AtStart classFile x code maxLocals ret World_1 tables_1 room_1 Calls_1 rest_1 Pre_1 launch0 p0 e0 about1 theMethod args0 below0 :=
  ⟨lists_1, trivial, launch0.admits_env _ _ _, launch0.least_env, fairChoices_fair.cas, fairChoices_fair.clock, w_frames, w_args, w_heap, w_applies, trivial, trivial, w_case⟩
end start1
theorem witness_1 : WitnessClaimed_1 := ⟨start1.p0, start1.e0, start1.about1, start1.theMethod, start1.args0, start1.below0, start1.atStart⟩
end Jvm.Pilot.@@N@@

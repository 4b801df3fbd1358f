import JvmDerived
import JvmDerived.Pilot.@@N@@Statement
import JvmDerived.Pilot.@@N@@Code
set_option linter.unusedVariables false
set_option linter.unusedSimpArgs false
namespace Jvm.Pilot.@@N@@
open Jvm Jvm.ClassFile Sem Op Lib Jvm.Free Jvm.Stand Jvm.LawKit Jvm.RoadKit Bundle Jvm.Pilot.@@N@@.Jvm.D
/-! THE LAYER own_: 'Ends': from this state the body ends as Q says; one lemma an instruction, over frames in the form mkF -/
section Own
variable {p : Program} {l : Launch} {e : Env} {R : Room} {s : State} {m : MethodId} {args : Array Value} {below : List Frame} {meth : Method} {c : Code} {T : State} {locs : List Loc} {cells slots : Nat}
variable {Q : Option Value → Heap → List Loc → Prop} {C S : Nat} {bc : ByteArray} {pc pc' : Nat} {Ls Ls' : Array Slot} {st : List Value} {Fz : Outcome → State → Prop}
def Ends (tb : Tables) (e : Env) (below : List Frame) (Fz : Outcome → State → Prop) (t : State) : Prop :=
  ∃ s₂ o, Steps tb e below t s₂ ∧ s₂.status = .running ∧ Ended s₂ below o ∧ Fz o s₂
def OwnFin (s : State) (Q : Option Value → Heap → List Loc → Prop) (C S : Nat) (o : Outcome) (s₂ : State) : Prop := ∃ v L, o = .returned v ∧ Q v s₂.heap L ∧ FrameEnd s o s₂ L C S
theorem Ends.of {tb : Tables} {t t' : State} (st : ∀ target, Steps tb e below t' target → Steps tb e below t target) (k : Ends tb e below Fz t') : Ends tb e below Fz t := by
  obtain ⟨s₂, o, h1, h2⟩ := k
  exact ⟨s₂, o, st _ h1, h2⟩
theorem Ends.tr {tb : Tables} {t t' : State} (st : Steps tb e below t t') (k : Ends tb e below Fz t') : Ends tb e below Fz t := Ends.of (fun _ q => st.trans q) k
theorem own_iload (X : Stand p l e R s m args below meth c T locs cells slots) (hx : p.tables.exec = Jvm.exec) (hby : c.code = bc) {k : Nat} {v : Int32} (hd : decode bc pc = .ok (.iload k, 2)) (hp : pc + 2 = pc') (hl : Ls[k]? = some (.val (.int v)))
    (kt : Ends p.tables e below Fz (T.setTop (mkF m pc' Ls (.int v :: st)))) : Ends p.tables e below Fz (T.setTop (mkF m pc Ls st)) := by
  subst hp; exact Ends.of (fun _ q => XS.iload X.here hx rfl (hb hby hd) hl q) kt
theorem own_lloadN (X : Stand p l e R s m args below meth c T locs cells slots) (hx : p.tables.exec = Jvm.exec) (hby : c.code = bc) {k : Fin 4} {v : Int64} (hd : decode bc pc = .ok (.lload_n k, 1)) (hp : pc + 1 = pc') (hl : Ls[k.val]? = some (.val (.long v)))
    (kt : Ends p.tables e below Fz (T.setTop (mkF m pc' Ls (.long v :: st)))) : Ends p.tables e below Fz (T.setTop (mkF m pc Ls st)) := by
  subst hp; exact Ends.of (fun _ q => Jvm.Free.XT.lloadN X.here hx rfl (hb hby hd) hl q) kt
theorem own_lload (X : Stand p l e R s m args below meth c T locs cells slots) (hx : p.tables.exec = Jvm.exec) (hby : c.code = bc) {k : Nat} {v : Int64} (hd : decode bc pc = .ok (.lload k, 2)) (hp : pc + 2 = pc') (hl : Ls[k]? = some (.val (.long v)))
    (kt : Ends p.tables e below Fz (T.setTop (mkF m pc' Ls (.long v :: st)))) : Ends p.tables e below Fz (T.setTop (mkF m pc Ls st)) := by
  subst hp; exact Ends.of (fun _ q => Jvm.Free.XT.lload X.here hx rfl (hb hby hd) hl q) kt
theorem own_aloadN (X : Stand p l e R s m args below meth c T locs cells slots) (hx : p.tables.exec = Jvm.exec) (hby : c.code = bc) {k : Fin 4} {v : Value} (hd : decode bc pc = .ok (.aload_n k, 1)) (hp : pc + 1 = pc') (hl : Ls[k.val]? = some (.val v)) (hv : v.isRef = true)
    (kt : Ends p.tables e below Fz (T.setTop (mkF m pc' Ls (v :: st)))) : Ends p.tables e below Fz (T.setTop (mkF m pc Ls st)) := by
  subst hp; exact Ends.of (fun _ q => XS.aloadN X.here hx rfl (hb hby hd) hl hv q) kt
theorem own_aload (X : Stand p l e R s m args below meth c T locs cells slots) (hx : p.tables.exec = Jvm.exec) (hby : c.code = bc) {k : Nat} {v : Value} (hd : decode bc pc = .ok (.aload k, 2)) (hp : pc + 2 = pc') (hl : Ls[k]? = some (.val v)) (hv : v.isRef = true)
    (kt : Ends p.tables e below Fz (T.setTop (mkF m pc' Ls (v :: st)))) : Ends p.tables e below Fz (T.setTop (mkF m pc Ls st)) := by
  subst hp; exact Ends.of (fun _ q => XS.aload X.here hx rfl (hb hby hd) hl hv q) kt
theorem own_istore (X : Stand p l e R s m args below meth c T locs cells slots) (hx : p.tables.exec = Jvm.exec) (hby : c.code = bc) {k : Nat} {v : Int32} (hd : decode bc pc = .ok (.istore k, 2)) (hp : pc + 2 = pc') (Ls' : Array Slot) (hl : storeLocals Ls k (.int v) = some Ls')
    (kt : Ends p.tables e below Fz (T.setTop (mkF m pc' Ls' st))) : Ends p.tables e below Fz (T.setTop (mkF m pc Ls (.int v :: st))) := by
  subst hp; exact Ends.of (fun _ q => XS.istore X.here hx rfl (hb hby hd) rfl hl q) kt
theorem own_lstore (X : Stand p l e R s m args below meth c T locs cells slots) (hx : p.tables.exec = Jvm.exec) (hby : c.code = bc) {k : Nat} {v : Int64} (hd : decode bc pc = .ok (.lstore k, 2)) (hp : pc + 2 = pc') (Ls' : Array Slot) (hl : storeLocals Ls k (.long v) = some Ls')
    (kt : Ends p.tables e below Fz (T.setTop (mkF m pc' Ls' st))) : Ends p.tables e below Fz (T.setTop (mkF m pc Ls (.long v :: st))) := by
  subst hp; exact Ends.of (fun _ q => Jvm.Free.XT.lstore X.here hx rfl (hb hby hd) rfl hl q) kt
theorem own_astore (X : Stand p l e R s m args below meth c T locs cells slots) (hx : p.tables.exec = Jvm.exec) (hby : c.code = bc) {k : Nat} {v : Value} (hd : decode bc pc = .ok (.astore k, 2)) (hp : pc + 2 = pc') (Ls' : Array Slot) (hv : v.isRef = true) (hl : storeLocals Ls k v = some Ls')
    (kt : Ends p.tables e below Fz (T.setTop (mkF m pc' Ls' st))) : Ends p.tables e below Fz (T.setTop (mkF m pc Ls (v :: st))) := by
  subst hp; exact Ends.of (fun _ q => XS.astore X.here hx rfl (hb hby hd) rfl hv hl q) kt
theorem own_iconst (X : Stand p l e R s m args below meth c T locs cells slots) (hx : p.tables.exec = Jvm.exec) (hby : c.code = bc) {i : Int} (hd : decode bc pc = .ok (.iconst i, 1)) (hp : pc + 1 = pc') (v : Int32) (hv : Int32.ofInt i = v)
    (kt : Ends p.tables e below Fz (T.setTop (mkF m pc' Ls (.int v :: st)))) : Ends p.tables e below Fz (T.setTop (mkF m pc Ls st)) := by
  subst hp; exact Ends.of (fun _ q => by subst hv; exact XS.iconst X.here hx rfl (hb hby hd) q) kt
theorem own_lconst (X : Stand p l e R s m args below meth c T locs cells slots) (hx : p.tables.exec = Jvm.exec) (hby : c.code = bc) {i : Fin 2} (hd : decode bc pc = .ok (.lconst i, 1)) (hp : pc + 1 = pc') (v : Int64) (hv : Int64.ofNat i = v)
    (kt : Ends p.tables e below Fz (T.setTop (mkF m pc' Ls (.long v :: st)))) : Ends p.tables e below Fz (T.setTop (mkF m pc Ls st)) := by
  subst hp; exact Ends.of (fun _ q => by subst hv; exact Jvm.Free.XT.lconst X.here hx rfl (hb hby hd) q) kt
theorem own_iand (X : Stand p l e R s m args below meth c T locs cells slots) (hx : p.tables.exec = Jvm.exec) (hby : c.code = bc) {x y : Int32} (hd : decode bc pc = .ok (.iand, 1)) (hp : pc + 1 = pc')
    (kt : Ends p.tables e below Fz (T.setTop (mkF m pc' Ls (.int (x &&& y) :: st)))) : Ends p.tables e below Fz (T.setTop (mkF m pc Ls (.int y :: .int x :: st))) := by
  subst hp; exact Ends.of (fun _ q => XS.iand X.here hx rfl (hb hby hd) rfl q) kt
theorem own_land (X : Stand p l e R s m args below meth c T locs cells slots) (hx : p.tables.exec = Jvm.exec) (hby : c.code = bc) {x y : Int64} (hd : decode bc pc = .ok (.land, 1)) (hp : pc + 1 = pc')
    (kt : Ends p.tables e below Fz (T.setTop (mkF m pc' Ls (.long (x &&& y) :: st)))) : Ends p.tables e below Fz (T.setTop (mkF m pc Ls (.long y :: .long x :: st))) := by
  subst hp; exact Ends.of (fun _ q => Jvm.Free.XT.land X.here hx rfl (hb hby hd) rfl q) kt
theorem own_lxor (X : Stand p l e R s m args below meth c T locs cells slots) (hx : p.tables.exec = Jvm.exec) (hby : c.code = bc) {x y : Int64} (hd : decode bc pc = .ok (.lxor, 1)) (hp : pc + 1 = pc')
    (kt : Ends p.tables e below Fz (T.setTop (mkF m pc' Ls (.long (x ^^^ y) :: st)))) : Ends p.tables e below Fz (T.setTop (mkF m pc Ls (.long y :: .long x :: st))) := by
  subst hp; exact Ends.of (fun _ q => Jvm.Free.XT.lxor X.here hx rfl (hb hby hd) rfl q) kt
theorem own_dup2 (X : Stand p l e R s m args below meth c T locs cells slots) (hx : p.tables.exec = Jvm.exec) (hby : c.code = bc) {u v : Value} (hd : decode bc pc = .ok (.dup2, 1)) (hp : pc + 1 = pc') (hc : u.category = 1) (hc' : v.category = 1)
    (kt : Ends p.tables e below Fz (T.setTop (mkF m pc' Ls (u :: v :: u :: v :: st)))) : Ends p.tables e below Fz (T.setTop (mkF m pc Ls (u :: v :: st))) := by
  subst hp; exact Ends.of (fun _ q => Jvm.Free.XT.dup2 X.here hx rfl (hb hby hd) rfl hc hc' q) kt
theorem own_iinc (X : Stand p l e R s m args below meth c T locs cells slots) (hx : p.tables.exec = Jvm.exec) (hby : c.code = bc) {k : Nat} {i : Int} {x : Int32} (hd : decode bc pc = .ok (.iinc k i, 3)) (hp : pc + 3 = pc') (v : Int32) (hv : Int32.ofInt i = v) (Ls' : Array Slot) (hl : Ls[k]? = some (.val (.int x))) (hl' : storeLocals Ls k (.int (x + v)) = some Ls')
    (kt : Ends p.tables e below Fz (T.setTop (mkF m pc' Ls' st))) : Ends p.tables e below Fz (T.setTop (mkF m pc Ls st)) := by
  subst hp; exact Ends.of (fun _ q => by subst hv; exact XS.iinc X.here hx rfl (hb hby hd) hl hl' q) kt
theorem own_goto (X : Stand p l e R s m args below meth c T locs cells slots) (hx : p.tables.exec = Jvm.exec) (hby : c.code = bc) {o : Int} (hd : decode bc pc = .ok (.goto o, 3)) (hp : (pc : Int) + o = (pc' : Int)) (kt : Ends p.tables e below Fz (T.setTop (mkF m pc' Ls st))) : Ends p.tables e below Fz (T.setTop (mkF m pc Ls st)) :=
  Ends.of (fun _ q => XS.goto X.here hx rfl (pc0 := pc) (pc' := pc') rfl (hb hby hd) (by rw [hp]; exact Int.natCast_nonneg _) (by rw [hp]; rfl) q) kt
theorem own_icmp_ne (X : Stand p l e R s m args below meth c T locs cells slots) (hx : p.tables.exec = Jvm.exec) (hby : c.code = bc) {x y : Int32} {o : Int} {pcY pcN : Nat} (hd : decode bc pc = .ok (.if_icmp .ne o, 3)) (hpY : (pc : Int) + o = (pcY : Int)) (hpN : pc + 3 = pcN) (kY : ¬ x = y → Ends p.tables e below Fz (T.setTop (mkF m pcY Ls st))) (kN : x = y → Ends p.tables e below Fz (T.setTop (mkF m pcN Ls st))) : Ends p.tables e below Fz (T.setTop (mkF m pc Ls (.int y :: .int x :: st))) := by
  subst hpN; by_cases h : x = y
  · exact Ends.of (fun _ q => XS.icmpNo X.here hx rfl (hb hby hd) rfl (Jvm.Free.XT.ii_ne_f h) q) (kN h)
  · exact Ends.of (fun _ q => XS.icmpYes X.here hx rfl (pc0 := pc) (pc' := pcY) rfl (hb hby hd) rfl (Jvm.Free.XT.ii_ne_t h) (by rw [hpY]; exact Int.natCast_nonneg _) (by rw [hpY]; rfl) q) (kY h)
theorem own_icmp_ge (X : Stand p l e R s m args below meth c T locs cells slots) (hx : p.tables.exec = Jvm.exec) (hby : c.code = bc) {x y : Int32} {o : Int} {pcY pcN : Nat} (hd : decode bc pc = .ok (.if_icmp .ge o, 3)) (hpY : (pc : Int) + o = (pcY : Int)) (hpN : pc + 3 = pcN) (kY : y.toInt ≤ x.toInt → Ends p.tables e below Fz (T.setTop (mkF m pcY Ls st))) (kN : x.toInt < y.toInt → Ends p.tables e below Fz (T.setTop (mkF m pcN Ls st))) : Ends p.tables e below Fz (T.setTop (mkF m pc Ls (.int y :: .int x :: st))) := by
  subst hpN; by_cases h : x < y
  · exact Ends.of (fun _ q => XS.icmpNo X.here hx rfl (hb hby hd) rfl (Jvm.Free.XT.ii_ge_f h) q) (kN (Int32.lt_iff_toInt_lt.mp h))
  · exact Ends.of (fun _ q => XS.icmpYes X.here hx rfl (pc0 := pc) (pc' := pcY) rfl (hb hby hd) rfl (Jvm.Free.XT.ii_ge_t h) (by rw [hpY]; exact Int.natCast_nonneg _) (by rw [hpY]; rfl) q) (kY (Int.not_lt.mp fun q => h (Int32.lt_iff_toInt_lt.mpr q)))
theorem own_if_eq (X : Stand p l e R s m args below meth c T locs cells slots) (hx : p.tables.exec = Jvm.exec) (hby : c.code = bc) {x : Int32} {o : Int} {pcY pcN : Nat} (hd : decode bc pc = .ok (.ifCond .eq o, 3)) (hpY : (pc : Int) + o = (pcY : Int)) (hpN : pc + 3 = pcN) (kY : x = 0 → Ends p.tables e below Fz (T.setTop (mkF m pcY Ls st))) (kN : ¬ x = 0 → Ends p.tables e below Fz (T.setTop (mkF m pcN Ls st))) : Ends p.tables e below Fz (T.setTop (mkF m pc Ls (.int x :: st))) := by
  subst hpN; by_cases h : x = (0 : Int32)
  · exact Ends.of (fun _ q => XS.ifYes X.here hx rfl (pc0 := pc) (pc' := pcY) rfl (hb hby hd) rfl (Jvm.Free.XT.i0_eq_t h) (by rw [hpY]; exact Int.natCast_nonneg _) (by rw [hpY]; rfl) q) (kY h)
  · exact Ends.of (fun _ q => XS.ifNo X.here hx rfl (hb hby hd) rfl (Jvm.Free.XT.i0_eq_f h) q) (kN h)
theorem own_lcmp_ne (X : Stand p l e R s m args below meth c T locs cells slots) (hx : p.tables.exec = Jvm.exec) (hby : c.code = bc) {x y : Int64} {o : Int} {pcY pcN : Nat} (hc : decode bc pc = .ok (.lcmp, 1)) (hd : decode bc (pc + 1) = .ok (.ifCond .ne o, 3)) (hpY : ((pc + 1 : Nat) : Int) + o = (pcY : Int)) (hpN : pc + 1 + 3 = pcN) (kY : ¬ x = y → Ends p.tables e below Fz (T.setTop (mkF m pcY Ls st))) (kN : x = y → Ends p.tables e below Fz (T.setTop (mkF m pcN Ls st))) : Ends p.tables e below Fz (T.setTop (mkF m pc Ls (.long y :: .long x :: st))) := by
  subst hpN; by_cases h : x = y
  · exact Ends.of (fun _ q => Jvm.Free.XT.lcmp X.here hx rfl (hb hby hc) rfl (XS.ifNo X.here hx rfl (hb hby hd) rfl (Jvm.Free.XT.ll_ne_f h) q)) (kN h)
  · exact Ends.of (fun _ q => Jvm.Free.XT.lcmp X.here hx rfl (hb hby hc) rfl (XS.ifYes X.here hx rfl (pc0 := pc + 1) (pc' := pcY) rfl (hb hby hd) rfl (Jvm.Free.XT.ll_ne_t h) (by rw [hpY]; exact Int.natCast_nonneg _) (by rw [hpY]; rfl) q)) (kY h)
theorem own_ret (X : Stand p l e R s m args below meth c T locs cells slots) (hx : p.tables.exec = Jvm.exec) (hby : c.code = bc) {v : Value} {t : FieldType} {i : Instr} (hret : meth.sig.returnType = some t) (hk : meth.locks = false) (hd : decode bc pc = .ok (i, 1)) (v' : Value) (hn : narrow t v = v')
    (hi : (i = .ireturn ∧ (t = .int ∨ t = .boolean ∨ t = .byte ∨ t = .char ∨ t = .short) ∧ ∃ z, v = .int z) ∨ (i = .lreturn ∧ t = .long ∧ ∃ z, v = .long z) ∨ (i = .areturn ∧ t.isReference = true ∧ v.isRef = true))
    (hC : cells ≤ C) (hS : slots ≤ S) (q : Q (some v') T.heap locs) : Ends p.tables e below (OwnFin s Q C S) (T.setTop (mkF m pc Ls (v :: st))) := by
  obtain ⟨fs, hr, hrun, hended, hW, hsame⟩ := X.leave (v := some v') (fun h => by rw [hret] at h; cases h) hk
  refine ⟨_, _, ?_, hrun, hended, _, _, rfl, q, ⟨_, rfl⟩, hW, hsame.mono hC hS⟩
  have hm' : T.vm.method? m = some meth := X.method'
  show Steps p.tables e below (T.setTop { method := m, pc := pc, locals := Ls, stack := v :: st, locked := none }) _
  have hd' := hb hby hd
  rcases hi with ⟨rfl, ht, z, rfl⟩ | ⟨rfl, rfl, z, rfl⟩ | ⟨rfl, ht, hv⟩
  · rcases ht with rfl | rfl | rfl | rfl | rfl <;> (jvm_step X.here [X.here.top, hx, hd', hm', hret, hn]; first | (intro acts; rw [hr _ acts rfl rfl rfl]) | rw [hr _ _ rfl rfl rfl]) <;> exact Steps.refl _
  · have hn2 : Value.long z = v' := hn
    subst hn2
    jvm_step X.here [X.here.top, hx, hd', hm', hret, hn]
    first | (intro acts; rw [hr _ acts rfl rfl rfl]) | rw [hr _ _ rfl rfl rfl]
    exact Steps.refl _
  · have hn2 : v = v' := by rw [← hn]; rcases ref_cases hv with rfl | ⟨z, rfl⟩ <;> cases t <;> rfl
    subst hn2
    jvm_step X.here [X.here.top, hx, hd', hm', hret, hn, ht, hv]
    first | (intro acts; rw [hr _ acts rfl rfl rfl]) | rw [hr _ _ rfl rfl rfl]
    exact Steps.refl _
theorem own_retV (X : Stand p l e R s m args below meth c T locs cells slots) (hx : p.tables.exec = Jvm.exec) (hby : c.code = bc) (hret : meth.sig.returnType = none) (hk : meth.locks = false) (hd : decode bc pc = .ok (.return_, 1)) (hC : cells ≤ C) (hS : slots ≤ S) (q : Q none T.heap locs) : Ends p.tables e below (OwnFin s Q C S) (T.setTop (mkF m pc Ls [])) := by
  obtain ⟨fs, hr, hrun, hended, hW, hsame⟩ := X.leave (v := none) (fun _ => rfl) hk
  exact ⟨_, _, X.returnOut hx hret (hb hby hd) hr, hrun, hended, _, _, rfl, q, ⟨_, rfl⟩, hW, hsame.mono hC hS⟩
end Own
section OwnH
variable {p : Program} {l : Launch} {e : Env} {R : Room} {s : State} {m : MethodId} {args : Array Value} {below : List Frame} {meth : Method} {c : Code} {T : State} {locs : List Loc} {cells slots : Nat}
variable {Fz : Outcome → State → Prop} {bc : ByteArray} {pc pc' : Nat} {Ls Ls' : Array Slot} {st : List Value}
variable {Z : State} {a0 : Array Value} {h h0 : Heap} {n0 : Nat}
abbrev OwnMet (l : Launch) (Z : State) (y : MethodName) (bytes : ByteArray) (maxL : Nat) (rt : Option FieldType) (ws : List Jvm.Cond) (rm : Room) (as' : Array Value) (h0 : Heap) (Qc : Option Value → Heap → List Loc → Prop) : Prop :=
  MetFree l y (head1 (Jvm.Cond.code y bytes maxL rt :: ws) rm) (fun a U => a = as' ∧ Z.Warmed39 U.vm ∧ U.heap = h0) (fun _ _ _ _ _ => True) (fun _ U o U' => ∃ v L, o = .returned v ∧ Qc v U'.heap L ∧ FrameEnd U o U' L rm.cells rm.slots)
theorem own_body {y : MethodName} {bytes : ByteArray} {maxL : Nat} {rt : Option FieldType} {ws : List Jvm.Cond} {rm : Room} {as' : Array Value} {Qc : Option Value → Heap → List Loc → Prop} {Ls0 : Array Slot} (hpl : plainFor y = true) (hef : ∀ m : MethodId, entryFrame m as' maxL = mkF m 0 Ls0 [])
    (body : ∀ (p : Program) (e : Env) (s : State) (m : MethodId) (below : List Frame) (meth : Method) (c : Code) (s₁ : State), Stand p l e rm s m as' below meth c s₁ [] 0 0 → p.tables.exec = Jvm.exec → c.code = bytes → c.maxLocals = maxL → s.vm.findClass y.cls = some m.cls → meth.name = y.name → meth.sig.returnType = rt → meth.locks = false → Z.Warmed39 s.vm → s₁.heap = h0 → Ends p.tables e below (OwnFin s Qc rm.cells rm.slots) (s₁.setTop (mkF m 0 Ls0 []))) :
    OwnMet l Z y bytes maxL rt ws rm as' h0 Qc := by
  refine MetFree.of_bodySF hpl hisR ?_
  intro p e s m args below meth c s₁ Bd hml0 hP hK
  obtain ⟨rfl, hZ, hh⟩ := hP
  have e0 : s₁.heap = h0 := by rw [← hh, Bd.state]; rfl
  rw [hef]
  exact body p e s m below meth c s₁ (Stand.of_body Bd) Bd.exec Bd.bytes hml0 (findClass_of_methodNamed Bd.named) (name_of_methodNamed Bd.named Bd.method).1 Bd.returns Bd.notSynchronized hZ e0
theorem own_static (X : Stand p l e R s m args below meth c T locs cells slots) (hx : p.tables.exec = Jvm.exec) (hby : c.code = bc) (hZ : Z.Warmed39 s.vm) {own : String} {index : Nat} {y : MethodName} {bytes : ByteArray} {maxL : Nat} {rt r : Option FieldType} {ps : List FieldType} {rm : Room} {argsL rest : List Value} {Qc : Option Value → Heap → List Loc → Prop} {W : Nat}
    (hown : s.vm.findClass own = some m.cls) (w1 : (Jvm.Cond.methodLink own index y).before a0 Z = true) (w2 : (Jvm.Cond.static y).before a0 Z = true) (w3 : (Jvm.Cond.initialized y.cls).before a0 Z = true) (w4 : (Jvm.Cond.code y bytes maxL rt).before a0 Z = true) (hy : y.cls ≠ "java/lang/invoke/MethodHandle" ∧ y.cls ≠ "java/lang/invoke/VarHandle")
    (hM : OwnMet l Z y bytes maxL rt [] rm argsL.toArray h Qc) (eT : T.heap = h) (hml : Ls.size = c.maxLocals) (hlen : parseMethodDescriptor y.desc = some ⟨ps, r⟩) (hl : argsL.length = ps.length) (hf : rm.frames + 1 ≤ R.frames) (hW : (rest.map fun v => v.category).sum ≤ W) (hlo : W + (maxL + 11) + rm.locals ≤ R.locals) (hc : cells + rm.cells ≤ R.cells) (hs : slots + rm.slots ≤ R.slots)
    (hd : decode bc pc = .ok (.invokestatic index, 3)) (hp : pc + 3 = pc') (hst : st = argsL.reverse ++ rest)
    (kt : ∀ v T' L, Stand p l e R s m args below meth c T' (locs ++ L) (cells + rm.cells) (slots + rm.slots) → Qc v T'.heap L → Ends p.tables e below Fz (T'.setTop (mkF m pc' Ls (v.toList ++ rest)))) : Ends p.tables e below Fz (T.setTop (mkF m pc Ls st)) := by
  subst hp hst
  obtain ⟨v, vm₁, ⟨T', L', k', n'⟩, -, X', ⟨Lc, hQ, l', y', z'⟩, st⟩ := Jvm.LawKit.callS X hx (y := y) hown (mvT hZ w1) (mvT hZ w2) (mvT hZ w3) (mvT hZ w4) hy (backOf (W := W) hM hZ w4 w3 hf hlo) (g := mkF m pc Ls (argsL.reverse ++ rest)) rfl hml (argsL := argsL) (rest := rest) (lenOf hlen hl) rfl (by show 2 * 0 + _ ≤ _; omega) (hb hby hd) (fun _ _ => ⟨rfl, eT, hc, hs⟩)
  dsimp only [Pt.U, Pt.locs, Pt.cells, Pt.slots] at X' l' y' z' st hQ
  subst l' y' z'
  exact Ends.of st (kt v T' Lc X' hQ)
theorem own_newarray (X : Stand p l e R s m args below meth c T locs cells slots) (hx : p.tables.exec = Jvm.exec) (hby : c.code = bc) (hZ : Z.Warmed39 s.vm) {aty : ArrayType} {n : Int32}
    (w : (Jvm.Cond.arrayClass (newarray.typeOf aty)).before a0 Z = true) (eT : T.heap = h) (hn : ¬ n < 0) (cap : Nat) (hcap : n.toNatClampNeg ≤ cap) (hb8 : cap * 8 ≤ 536870912) (hc : cells + 1 ≤ R.cells) (hl : slots + cap ≤ R.slots)
    (ty : FieldType) (hty : newarray.typeOf aty = ty) (vs : List Value) (hvs : List.replicate n.toNatClampNeg (defaultValue ty) = vs)
    (hd : decode bc pc = .ok (.newarray aty, 2)) (hp : pc + 2 = pc')
    (kt : ∀ T' h' b k, Stand p l e R s m args below meth c T' locs (cells + 1) (slots + cap) → T'.heap = h' → b = h.size → Ext h h' → Arv Z h' b k ty n vs (defaultValue ty) → Ends p.tables e below Fz (T'.setTop (mkF m pc' Ls (.ref b :: st)))) : Ends p.tables e below Fz (T.setTop (mkF m pc Ls (.int n :: st))) := by
  subst hp hty hvs
  obtain ⟨T', h', k', X', e', E', A', st⟩ := newP X hx hZ w eT (g := mkF m pc Ls (.int n :: st)) rfl (hb hby hd) rfl hn hcap hb8 hc hl
  exact Ends.of st (kt T' h' _ k' X' e' rfl E' ((Arv.new A' hn).pad (pad_rep [] _ _)))
theorem own_arraylength (X : Stand p l e R s m args below meth c T locs cells slots) (hx : p.tables.exec = Jvm.exec) (hby : c.code = bc) (hZ : Z.Warmed39 s.vm) {ty : FieldType} {a : Addr} {k : ClassId} {n : Int32} {vs : List Value} {dv : Value}
    (eT : T.heap = h) (V : Arv Z h a k ty n vs dv) (hd : decode bc pc = .ok (.arraylength, 1)) (hp : pc + 1 = pc')
    (kt : Ends p.tables e below Fz (T.setTop (mkF m pc' Ls (.int n :: st)))) : Ends p.tables e below Fz (T.setTop (mkF m pc Ls (.ref a :: st))) := by
  subst hp
  obtain ⟨cl, A, -, Sz, Nn, -, -⟩ := V
  exact Ends.of (fun _ q => X.arraylength hx (by rw [eT]; exact A.1) (State.isArrayOf_alike hZ.alike A.2.1) (g := mkF m pc Ls (.ref a :: st)) rfl rfl (hb hby hd) _ (by rw [len_of Sz Nn]; exact q)) kt
theorem own_laload (X : Stand p l e R s m args below meth c T locs cells slots) (hx : p.tables.exec = Jvm.exec) (hby : c.code = bc) (hZ : Z.Warmed39 s.vm) {a : Addr} {k : ClassId} {n j : Int32} {vs : List Value} {dv : Value} (v : Int64)
    (eT : T.heap = h) (V : Arv Z h a k .long n vs dv) (hj : ¬ j < 0 ∧ j < n) (hv : vs.getD j.toNatClampNeg dv = .long v) (hd : decode bc pc = .ok (.laload, 1)) (hp : pc + 1 = pc')
    (kt : Ends p.tables e below Fz (T.setTop (mkF m pc' Ls (.long v :: st)))) : Ends p.tables e below Fz (T.setTop (mkF m pc Ls (.int j :: .ref a :: st))) := by
  subst hp
  obtain ⟨cl, A, -, Sz, Nn, H, -⟩ := V
  exact Ends.of (fun _ q => X.laload hx (j := j) (v := .long v) (by rw [eT]; exact A.1) (State.isArrayOf_alike hZ.alike A.2.1) A.2.2 (inb_of Sz hj) (H.at (inb_of Sz hj) hv) (g := mkF m pc Ls (.int j :: .ref a :: st)) rfl rfl (hb hby hd) _ q) kt
theorem own_lastore (X : Stand p l e R s m args below meth c T locs cells slots) (hx : p.tables.exec = Jvm.exec) (hby : c.code = bc) (hZ : Z.Warmed39 s.vm) {a : Addr} {k : ClassId} {n j : Int32} {vs : List Value} {dv : Value} {x : Int64} (v' : Int64) (hv' : x = v')
    (eT : T.heap = h) (V : Arv Z h a k .long n vs dv) (hj : ¬ j < 0 ∧ j < n) (i : Nat) (hi : j.toNatClampNeg = i) (hil : i < vs.length) (vs' : List Value) (hvs : vs.set i (.long v') = vs') (hfit : fits .long (.long v') = true) (N : Fr n0 locs) (ga : n0 ≤ a) (hd : decode bc pc = .ok (.lastore, 1)) (hp : pc + 1 = pc')
    (kt : ∀ T' h' L', Stand p l e R s m args below meth c T' L' cells slots → T'.heap = h' → Wr h h' a j.toNatClampNeg (.long v') → Arv Z h' a k .long n vs' dv → Fr n0 L' → Ends p.tables e below Fz (T'.setTop (mkF m pc' Ls st))) : Ends p.tables e below Fz (T.setTop (mkF m pc Ls (.long x :: .int j :: .ref a :: st))) := by
  subst hp hvs hv'
  obtain ⟨cl, A, q1, Sz, Nn, H, G⟩ := V
  obtain ⟨T', h', X', e', W', st⟩ := stJ X hx hZ eT A (j := j) (inb_of Sz hj) (g := mkF m pc Ls (.long x :: .int j :: .ref a :: st)) rfl rfl (hb hby hd)
  exact Ends.of st (kt T' h' _ X' e' W' (Arv.set A q1 Sz Nn H G hfit W' i hi hil) (Fr.snoc X' N ga))
theorem own_ldc2J (X : Stand p l e R s m args below meth c T locs cells slots) (hx : p.tables.exec = Jvm.exec) (hby : c.code = bc) (hZ : Z.Warmed39 s.vm) {own : String} {index : Nat} {v : Int64}
    (hown : s.vm.findClass own = some m.cls) (w : (Jvm.Cond.constantLong own index v).before a0 Z = true) (hd : decode bc pc = .ok (.ldc2_w index, 3)) (hp : pc + 3 = pc')
    (kt : Ends p.tables e below Fz (T.setTop (mkF m pc' Ls (.long v :: st)))) : Ends p.tables e below Fz (T.setTop (mkF m pc Ls st)) := by
  subst hp; exact Ends.of (X.ldc2Long hx hown (mvT hZ w) (g := mkF m pc Ls st) rfl (hb hby hd)) kt
theorem own_ge {b : Addr} (O : Old Z n0 h) (g : b = h.size) : n0 ≤ b := by rw [g]; exact O.1 ▸ O.2.1
theorem own_lt {x b : Addr} (hx : x < h.size) (g : b = h.size) : x ≠ b := by rw [g]; exact Nat.ne_of_lt hx
end OwnH

theorem own_x1 (t s : Int64) : t ^^^ ((-1 : Int64) &&& (t ^^^ s)) = s := by
  apply Int64.toBitVec_inj.mp
  simp only [Int64.toBitVec_xor, Int64.toBitVec_and]
  have e : (-1 : Int64).toBitVec = BitVec.allOnes 64 := by decide
  rw [e, BitVec.allOnes_and, ← BitVec.xor_assoc, BitVec.xor_self, BitVec.zero_xor]
theorem own_x0 (t s : Int64) : t ^^^ ((0 : Int64) &&& (t ^^^ s)) = t := by
  apply Int64.toBitVec_inj.mp
  simp only [Int64.toBitVec_xor, Int64.toBitVec_and]
  have e : (0 : Int64).toBitVec = 0#64 := by decide
  rw [e, BitVec.zero_and, BitVec.xor_zero]
theorem tw_0 : (Jvm.Cond.constantLong "com/example/lemniscate/lemniscate/curve/LimbFieldCopyIfPinLaw" (7 : Nat) (-1 : Int64)) ∈ tables_1 := List.mem_of_getElem? (i := 0) rfl
theorem tw_1 : (Jvm.Cond.arrayClass Jvm.ClassFile.FieldType.long) ∈ tables_1 := List.mem_of_getElem? (i := 1) rfl
theorem tw_2 : (Jvm.Cond.methodLink "com/example/lemniscate/lemniscate/curve/LimbFieldCopyIfPinLaw" (9 : Nat) ({ cls := "com/example/lemniscate/lemniscate/curve/LimbField", name := "copyIf", desc := "([J[JJ)V" } : Jvm.MethodName)) ∈ tables_1 := List.mem_of_getElem? (i := 2) rfl
theorem tw_3 : (Jvm.Cond.static ({ cls := "com/example/lemniscate/lemniscate/curve/LimbField", name := "copyIf", desc := "([J[JJ)V" } : Jvm.MethodName)) ∈ tables_1 := List.mem_of_getElem? (i := 3) rfl
theorem tw_4 : (Jvm.Cond.initialized "com/example/lemniscate/lemniscate/curve/LimbField") ∈ tables_1 := List.mem_of_getElem? (i := 4) rfl
theorem tw_5 : (Jvm.Cond.code ({ cls := "com/example/lemniscate/lemniscate/curve/LimbField", name := "copyIf", desc := "([J[JJ)V" } : Jvm.MethodName) prog_57_method_16_code (5 : Nat) (Option.none : Option Jvm.ClassFile.FieldType)) ∈ tables_1 := List.mem_of_getElem? (i := 5) rfl
theorem d1_0 : decode prog_57_method_16_code 0 = .ok (.iconst 0, 1) := by decide +kernel
theorem d1_1 : decode prog_57_method_16_code 1 = .ok (.istore 4, 2) := by decide +kernel
theorem d1_3 : decode prog_57_method_16_code 3 = .ok (.iload 4, 2) := by decide +kernel
theorem d1_5 : decode prog_57_method_16_code 5 = .ok (.aload_n 0, 1) := by decide +kernel
theorem d1_6 : decode prog_57_method_16_code 6 = .ok (.arraylength, 1) := by decide +kernel
theorem d1_7 : decode prog_57_method_16_code 7 = .ok (.if_icmp .ge 27, 3) := by decide +kernel
theorem d1_10 : decode prog_57_method_16_code 10 = .ok (.aload_n 0, 1) := by decide +kernel
theorem d1_11 : decode prog_57_method_16_code 11 = .ok (.iload 4, 2) := by decide +kernel
theorem d1_13 : decode prog_57_method_16_code 13 = .ok (.dup2, 1) := by decide +kernel
theorem d1_14 : decode prog_57_method_16_code 14 = .ok (.laload, 1) := by decide +kernel
theorem d1_15 : decode prog_57_method_16_code 15 = .ok (.lload_n 2, 1) := by decide +kernel
theorem d1_16 : decode prog_57_method_16_code 16 = .ok (.aload_n 0, 1) := by decide +kernel
theorem d1_17 : decode prog_57_method_16_code 17 = .ok (.iload 4, 2) := by decide +kernel
theorem d1_19 : decode prog_57_method_16_code 19 = .ok (.laload, 1) := by decide +kernel
theorem d1_20 : decode prog_57_method_16_code 20 = .ok (.aload_n 1, 1) := by decide +kernel
theorem d1_21 : decode prog_57_method_16_code 21 = .ok (.iload 4, 2) := by decide +kernel
theorem d1_23 : decode prog_57_method_16_code 23 = .ok (.laload, 1) := by decide +kernel
theorem d1_24 : decode prog_57_method_16_code 24 = .ok (.lxor, 1) := by decide +kernel
theorem d1_25 : decode prog_57_method_16_code 25 = .ok (.land, 1) := by decide +kernel
theorem d1_26 : decode prog_57_method_16_code 26 = .ok (.lxor, 1) := by decide +kernel
theorem d1_27 : decode prog_57_method_16_code 27 = .ok (.lastore, 1) := by decide +kernel
theorem d1_28 : decode prog_57_method_16_code 28 = .ok (.iinc 4 1, 3) := by decide +kernel
theorem d1_31 : decode prog_57_method_16_code 31 = .ok (.goto (-28), 3) := by decide +kernel
theorem d1_34 : decode prog_57_method_16_code 34 = .ok (.return_, 1) := by decide +kernel
theorem pd_0 : parseMethodDescriptor "([J[JJ)V" = some ⟨[(.array .long), (.array .long), .long], none⟩ := by decide +kernel
theorem pn_0 : plainName "com/example/lemniscate/lemniscate/curve/LimbField" = true := by first | (simp [plainName, overriddenIn]; done) | decide +kernel
theorem pn_1 : plainName "com/example/lemniscate/lemniscate/curve/LimbFieldCopyIfPinLaw" = true := by first | (simp [plainName, overriddenIn]; done) | decide +kernel
theorem ef_1 (m : MethodId) (x0 : Addr) (x1 : Addr) (x2 : Int64) : entryFrame m #[(.ref x0), (.ref x1), (.long x2)] 5 = mkF m 0 #[.val (.ref x0), .val (.ref x1), .val (.long x2), .second, .unset] [] := by first | (simp [entryFrame, mkF, argsToLocals, Value.category]; done) | rfl
theorem ef_0 (m : MethodId) (x0 : Int64) (x1 : Int64) (x2 : Int64) (x3 : Int64) (x4 : Int32) : entryFrame m #[(.long x0), (.long x1), (.long x2), (.long x3), (.int x4)] maxLocals = mkF m 0 #[.val (.long x0), .second, .val (.long x1), .second, .val (.long x2), .second, .val (.long x3), .second, .val (.int x4), .unset, .unset, .unset, .unset, .unset, .unset, .unset, .unset, .unset] [] := by first | (simp [entryFrame, mkF, argsToLocals, Value.category, maxLocals]; done) | rfl
set_option maxRecDepth 65536 in
set_option maxHeartbeats 40000000 in
theorem rm1 (l : Launch) (Z : State) (a0 : Array Value) (hw : ∀ d ∈ tables_1, d.before a0 Z = true) (x0 : Addr) (x1 : Addr) (x2 : Int64) (h0 : Heap) (n0 : Nat) {k1 k2 : ClassId} {t0 t1 s0 s1 : Int64} (Vt : Arv Z h0 x0 k1 .long 2 [(.long t0), (.long t1)] (.long 0)) (Vs : Arv Z h0 x1 k2 .long 2 [(.long s0), (.long s1)] (.long 0)) (ge : n0 ≤ x0) (ne : x0 ≠ x1) :
    OwnMet l Z (⟨"com/example/lemniscate/lemniscate/curve/LimbField", "copyIf", "([J[JJ)V"⟩ : MethodName) prog_57_method_16_code 5 none [] ({ frames := 0, cells := 0, slots := 0, locals := 0 } : Room) #[(.ref x0), (.ref x1), (.long x2)] h0 (fun v h L => v = none ∧ Fr n0 L ∧ Keep h0 h [x0] ∧ Arv Z h x0 k1 .long 2 [(.long (t0 ^^^ (x2 &&& (t0 ^^^ s0)))), (.long (t1 ^^^ (x2 &&& (t1 ^^^ s1))))] (.long 0)) := by
  refine own_body (plainFor_of_name pn_0) (fun m => ef_1 m x0 x1 x2) ?_
  intro p e s m below meth c s₁ X0 hx hby hml hown hnm hret hlk hZ e0
  replace hown : s.vm.findClass "com/example/lemniscate/lemniscate/curve/LimbField" = some m.cls := hown
  replace hml : c.maxLocals = 5 := hml
  have N0 := Fr.nil n0
  show Ends p.tables e below _ (s₁.setTop (mkF m 0 #[.val (.ref x0), .val (.ref x1), .val (.long x2), .second, .unset] []))
  refine own_iconst X0 hx hby d1_0 rfl (0 : Int32) rfl ?_
  refine own_istore X0 hx hby d1_1 rfl #[.val (.ref x0), .val (.ref x1), .val (.long x2), .second, .val (.int (0 : Int32))] rfl ?_
  refine own_iload X0 hx hby d1_3 rfl rfl ?_
  refine own_aloadN X0 hx hby d1_5 rfl rfl rfl ?_
  refine own_arraylength X0 hx hby hZ e0 Vt d1_6 rfl ?_
  refine own_icmp_ge X0 hx hby d1_7 (pcY := 34) (pcN := 10) (by decide) rfl (fun (hc1 : 2 ≤ 0) => False.elim (by exact absurd hc1 (by decide))) (fun (hc1 : 0 < 2) => ?_)
  refine own_aloadN X0 hx hby d1_10 rfl rfl rfl ?_
  refine own_iload X0 hx hby d1_11 rfl rfl ?_
  refine own_dup2 X0 hx hby d1_13 rfl rfl rfl ?_
  refine own_laload X0 hx hby hZ t0 e0 Vt (by decide) rfl d1_14 rfl ?_
  refine own_lloadN X0 hx hby d1_15 rfl rfl ?_
  refine own_aloadN X0 hx hby d1_16 rfl rfl rfl ?_
  refine own_iload X0 hx hby d1_17 rfl rfl ?_
  refine own_laload X0 hx hby hZ t0 e0 Vt (by decide) rfl d1_19 rfl ?_
  refine own_aloadN X0 hx hby d1_20 rfl rfl rfl ?_
  refine own_iload X0 hx hby d1_21 rfl rfl ?_
  refine own_laload X0 hx hby hZ s0 e0 Vs (by decide) rfl d1_23 rfl ?_
  refine own_lxor X0 hx hby d1_24 rfl ?_
  refine own_land X0 hx hby d1_25 rfl ?_
  refine own_lxor X0 hx hby d1_26 rfl ?_
  refine own_lastore X0 hx hby hZ (t0 ^^^ (x2 &&& (t0 ^^^ s0))) rfl e0 Vt (by decide) 0 rfl (show 0 < 2 by decide) [(.long (t0 ^^^ (x2 &&& (t0 ^^^ s0)))), (.long t1)] rfl rfl N0 ge d1_27 rfl (fun T2 h2 L2 X2 e2 W2 V2 N2 => ?_)
  refine own_iinc X2 hx hby d1_28 rfl (1 : Int32) rfl #[.val (.ref x0), .val (.ref x1), .val (.long x2), .second, .val (.int (1 : Int32))] rfl rfl ?_
  refine own_goto X2 hx hby d1_31 (pc' := 3) (by decide) ?_
  refine own_iload X2 hx hby d1_3 rfl rfl ?_
  refine own_aloadN X2 hx hby d1_5 rfl rfl rfl ?_
  refine own_arraylength X2 hx hby hZ e2 V2 d1_6 rfl ?_
  refine own_icmp_ge X2 hx hby d1_7 (pcY := 34) (pcN := 10) (by decide) rfl (fun (hc3 : 2 ≤ 1) => False.elim (by exact absurd hc3 (by decide))) (fun (hc3 : 1 < 2) => ?_)
  refine own_aloadN X2 hx hby d1_10 rfl rfl rfl ?_
  refine own_iload X2 hx hby d1_11 rfl rfl ?_
  refine own_dup2 X2 hx hby d1_13 rfl rfl rfl ?_
  refine own_laload X2 hx hby hZ t1 e2 V2 (by decide) rfl d1_14 rfl ?_
  refine own_lloadN X2 hx hby d1_15 rfl rfl ?_
  refine own_aloadN X2 hx hby d1_16 rfl rfl rfl ?_
  refine own_iload X2 hx hby d1_17 rfl rfl ?_
  refine own_laload X2 hx hby hZ t1 e2 V2 (by decide) rfl d1_19 rfl ?_
  refine own_aloadN X2 hx hby d1_20 rfl rfl rfl ?_
  refine own_iload X2 hx hby d1_21 rfl rfl ?_
  have f4 := (Vs.other W2 (Ne.symm ne))
  refine own_laload X2 hx hby hZ s1 e2 f4 (by decide) rfl d1_23 rfl ?_
  refine own_lxor X2 hx hby d1_24 rfl ?_
  refine own_land X2 hx hby d1_25 rfl ?_
  refine own_lxor X2 hx hby d1_26 rfl ?_
  refine own_lastore X2 hx hby hZ (t1 ^^^ (x2 &&& (t1 ^^^ s1))) rfl e2 V2 (by decide) 1 rfl (show 1 < 2 by decide) [(.long (t0 ^^^ (x2 &&& (t0 ^^^ s0)))), (.long (t1 ^^^ (x2 &&& (t1 ^^^ s1))))] rfl rfl N2 ge d1_27 rfl (fun T5 h5 L5 X5 e5 W5 V5 N5 => ?_)
  refine own_iinc X5 hx hby d1_28 rfl (1 : Int32) rfl #[.val (.ref x0), .val (.ref x1), .val (.long x2), .second, .val (.int (2 : Int32))] rfl rfl ?_
  refine own_goto X5 hx hby d1_31 (pc' := 3) (by decide) ?_
  refine own_iload X5 hx hby d1_3 rfl rfl ?_
  refine own_aloadN X5 hx hby d1_5 rfl rfl rfl ?_
  refine own_arraylength X5 hx hby hZ e5 V5 d1_6 rfl ?_
  refine own_icmp_ge X5 hx hby d1_7 (pcY := 34) (pcN := 10) (by decide) rfl (fun (hc6 : 2 ≤ 2) => ?_) (fun (hc6 : 2 < 2) => False.elim (by exact absurd hc6 (by decide)))
  refine own_retV X5 hx hby hret hlk d1_34 (by decide) (by decide) ?_
  have f7 := (((Keep.refl h0 [x0]).wr W2 (Or.inl (by simp))).wr W5 (Or.inl (by simp)))
  rw [e5]
  exact ⟨rfl, N5, f7, V5⟩
set_option maxRecDepth 65536 in
set_option maxHeartbeats 40000000 in
theorem rm0 (l : Launch) (Z : State) (a0 : Array Value) (hw : ∀ d ∈ tables_1, d.before a0 Z = true) (x0 : Int64) (x1 : Int64) (x2 : Int64) (x3 : Int64) (x4 : Int32) (h0 : Heap) (n0 : Nat) (O : Old Z n0 h0) :
    OwnMet l Z x code maxLocals ret tables_1 room_1 #[(.long x0), (.long x1), (.long x2), (.long x3), (.int x4)] h0 (fun v h L => v = some (.int 1) ∧ Fr n0 L) := by
  refine own_body (plainFor_of_name pn_1) (fun m => ef_0 m x0 x1 x2 x3 x4) ?_
  intro p e s m below meth c s₁ X0 hx hby hml hown hnm hret hlk hZ e0
  replace hown : s.vm.findClass "com/example/lemniscate/lemniscate/curve/LimbFieldCopyIfPinLaw" = some m.cls := hown
  replace hml : c.maxLocals = 18 := hml
  have N0 := Fr.nil n0
  show Ends p.tables e below _ (s₁.setTop (mkF m 0 #[.val (.long x0), .second, .val (.long x1), .second, .val (.long x2), .second, .val (.long x3), .second, .val (.int x4), .unset, .unset, .unset, .unset, .unset, .unset, .unset, .unset, .unset] []))
  refine own_iload X0 hx hby at_0 rfl rfl ?_
  refine own_iconst X0 hx hby at_2 rfl (1 : Int32) rfl ?_
  refine own_iand X0 hx hby at_3 rfl ?_
  refine own_if_eq X0 hx hby at_4 (pcY := 11) (pcN := 7) (by decide) rfl (fun (hc8 : (x4 &&& (1 : Int32)) = (0 : Int32)) => ?_) (fun (hc8 : ¬ (x4 &&& (1 : Int32)) = (0 : Int32)) => ?_)
  · -- pc 4: t
    refine own_iconst X0 hx hby at_11 rfl (0 : Int32) rfl ?_
    refine own_istore X0 hx hby at_12 rfl #[.val (.long x0), .second, .val (.long x1), .second, .val (.long x2), .second, .val (.long x3), .second, .val (.int x4), .val (.int (0 : Int32)), .unset, .unset, .unset, .unset, .unset, .unset, .unset, .unset] rfl ?_
    refine own_iload X0 hx hby at_14 rfl rfl ?_
    refine own_if_eq X0 hx hby at_16 (pcY := 25) (pcN := 19) (by decide) rfl (fun (hc9 : (0 : Int32) = (0 : Int32)) => ?_) (fun (hc9 : ¬ (0 : Int32) = (0 : Int32)) => False.elim (by exact absurd hc9 (by decide)))
    refine own_lconst X0 hx hby at_25 rfl (0 : Int64) rfl ?_
    refine own_lstore X0 hx hby at_26 rfl #[.val (.long x0), .second, .val (.long x1), .second, .val (.long x2), .second, .val (.long x3), .second, .val (.int x4), .val (.int (0 : Int32)), .val (.long (0 : Int64)), .second, .unset, .unset, .unset, .unset, .unset, .unset] rfl ?_
    refine own_iconst X0 hx hby at_28 rfl (2 : Int32) rfl ?_
    refine own_newarray X0 hx hby hZ (aty := .long) (hw _ tw_1) e0 (by decide) 2 (by decide) (by decide) (by decide) (by decide) .long rfl [(.long (0 : Int64)), (.long (0 : Int64))] rfl at_29 rfl (fun T10 h10 b10 k10 X10 e10 g10 E10 V10 => ?_)
    have ge_b10 : n0 ≤ b10 := own_ge O g10
    refine own_astore X10 hx hby at_31 rfl #[.val (.long x0), .second, .val (.long x1), .second, .val (.long x2), .second, .val (.long x3), .second, .val (.int x4), .val (.int (0 : Int32)), .val (.long (0 : Int64)), .second, .val (.ref b10), .unset, .unset, .unset, .unset, .unset] rfl rfl ?_
    refine own_aload X10 hx hby at_33 rfl rfl rfl ?_
    refine own_iconst X10 hx hby at_35 rfl (0 : Int32) rfl ?_
    refine own_lloadN X10 hx hby at_36 rfl rfl ?_
    refine own_lastore X10 hx hby hZ x0 rfl e10 V10 (by decide) 0 rfl (show 0 < 2 by decide) [(.long x0), (.long (0 : Int64))] rfl rfl N0 ge_b10 at_37 rfl (fun T11 h11 L11 X11 e11 W11 V11 N11 => ?_)
    refine own_aload X11 hx hby at_38 rfl rfl rfl ?_
    refine own_iconst X11 hx hby at_40 rfl (1 : Int32) rfl ?_
    refine own_lloadN X11 hx hby at_41 rfl rfl ?_
    refine own_lastore X11 hx hby hZ x1 rfl e11 V11 (by decide) 1 rfl (show 1 < 2 by decide) [(.long x0), (.long x1)] rfl rfl N11 ge_b10 at_42 rfl (fun T12 h12 L12 X12 e12 W12 V12 N12 => ?_)
    refine own_iconst X12 hx hby at_43 rfl (2 : Int32) rfl ?_
    have f14 := (((O.ext E10).wr W11 ge_b10).wr W12 ge_b10)
    refine own_newarray X12 hx hby hZ (aty := .long) (hw _ tw_1) e12 (by decide) 2 (by decide) (by decide) (by decide) (by decide) .long rfl [(.long (0 : Int64)), (.long (0 : Int64))] rfl at_44 rfl (fun T13 h13 b13 k13 X13 e13 g13 E13 V13 => ?_)
    have ge_b13 : n0 ≤ b13 := own_ge f14 g13
    have ne_b10_b13 : b10 ≠ b13 := own_lt V12.lt g13
    refine own_astore X13 hx hby at_46 rfl #[.val (.long x0), .second, .val (.long x1), .second, .val (.long x2), .second, .val (.long x3), .second, .val (.int x4), .val (.int (0 : Int32)), .val (.long (0 : Int64)), .second, .val (.ref b10), .val (.ref b13), .unset, .unset, .unset, .unset] rfl rfl ?_
    refine own_aload X13 hx hby at_48 rfl rfl rfl ?_
    refine own_iconst X13 hx hby at_50 rfl (0 : Int32) rfl ?_
    refine own_lload X13 hx hby at_51 rfl rfl ?_
    refine own_lastore X13 hx hby hZ x2 rfl e13 V13 (by decide) 0 rfl (show 0 < 2 by decide) [(.long x2), (.long (0 : Int64))] rfl rfl N12 ge_b13 at_53 rfl (fun T15 h15 L15 X15 e15 W15 V15 N15 => ?_)
    refine own_aload X15 hx hby at_54 rfl rfl rfl ?_
    refine own_iconst X15 hx hby at_56 rfl (1 : Int32) rfl ?_
    refine own_lload X15 hx hby at_57 rfl rfl ?_
    refine own_lastore X15 hx hby hZ x3 rfl e15 V15 (by decide) 1 rfl (show 1 < 2 by decide) [(.long x2), (.long x3)] rfl rfl N15 ge_b13 at_59 rfl (fun T16 h16 L16 X16 e16 W16 V16 N16 => ?_)
    refine own_aload X16 hx hby at_60 rfl rfl rfl ?_
    refine own_aload X16 hx hby at_62 rfl rfl rfl ?_
    refine own_lload X16 hx hby at_64 rfl rfl ?_
    have f18 := (((V12.ext E13).other W15 ne_b10_b13).other W16 ne_b10_b13)
    refine own_static X16 hx hby hZ (argsL := [(.ref b10), (.ref b13), (.long (0 : Int64))]) (rest := []) hown (hw _ tw_2) (hw _ tw_3) (hw _ tw_4) (hw _ tw_5) (by decide) (rm1 l Z a0 hw b10 b13 (0 : Int64) h16 n0 f18 V16 ge_b10 ne_b10_b13) e16 (by rw [hml]; rfl) pd_0 rfl (by decide) (W := 0) (Nat.le_refl _) (by decide) (by decide) (by decide) at_66 rfl rfl (fun v17 T17 L17 X17 hQ17 => ?_)
    obtain ⟨rfl, N17q, K17, V17⟩ := hQ17
    show Ends p.tables e below _ (T17.setTop (mkF m 69 #[.val (.long x0), .second, .val (.long x1), .second, .val (.long x2), .second, .val (.long x3), .second, .val (.int x4), .val (.int (0 : Int32)), .val (.long (0 : Int64)), .second, .val (.ref b10), .val (.ref b13), .unset, .unset, .unset, .unset] []))
    refine own_iload X17 hx hby at_69 rfl rfl ?_
    refine own_if_eq X17 hx hby at_71 (pcY := 79) (pcN := 74) (by decide) rfl (fun (hc19 : (0 : Int32) = (0 : Int32)) => ?_) (fun (hc19 : ¬ (0 : Int32) = (0 : Int32)) => False.elim (by exact absurd hc19 (by decide)))
    refine own_lloadN X17 hx hby at_79 rfl rfl ?_
    refine own_lstore X17 hx hby at_80 rfl #[.val (.long x0), .second, .val (.long x1), .second, .val (.long x2), .second, .val (.long x3), .second, .val (.int x4), .val (.int (0 : Int32)), .val (.long (0 : Int64)), .second, .val (.ref b10), .val (.ref b13), .val (.long x0), .second, .unset, .unset] rfl ?_
    refine own_iload X17 hx hby at_82 rfl rfl ?_
    refine own_if_eq X17 hx hby at_84 (pcY := 92) (pcN := 87) (by decide) rfl (fun (hc20 : (0 : Int32) = (0 : Int32)) => ?_) (fun (hc20 : ¬ (0 : Int32) = (0 : Int32)) => False.elim (by exact absurd hc20 (by decide)))
    refine own_lloadN X17 hx hby at_92 rfl rfl ?_
    refine own_lstore X17 hx hby at_93 rfl #[.val (.long x0), .second, .val (.long x1), .second, .val (.long x2), .second, .val (.long x3), .second, .val (.int x4), .val (.int (0 : Int32)), .val (.long (0 : Int64)), .second, .val (.ref b10), .val (.ref b13), .val (.long x0), .second, .val (.long x1), .second] rfl ?_
    refine own_aload X17 hx hby at_95 rfl rfl rfl ?_
    refine own_arraylength X17 hx hby hZ rfl V17 at_97 rfl ?_
    refine own_iconst X17 hx hby at_98 rfl (2 : Int32) rfl ?_
    refine own_icmp_ne X17 hx hby at_99 (pcY := 153) (pcN := 102) (by decide) rfl (fun (hc21 : ¬ (2 : Int32) = (2 : Int32)) => False.elim (by exact absurd hc21 (by decide))) (fun (hc21 : (2 : Int32) = (2 : Int32)) => ?_)
    refine own_aload X17 hx hby at_102 rfl rfl rfl ?_
    have f22 := (V16.keep K17 (ninS (Ne.symm ne_b10_b13) nin0))
    refine own_arraylength X17 hx hby hZ rfl f22 at_104 rfl ?_
    refine own_iconst X17 hx hby at_105 rfl (2 : Int32) rfl ?_
    refine own_icmp_ne X17 hx hby at_106 (pcY := 153) (pcN := 109) (by decide) rfl (fun (hc23 : ¬ (2 : Int32) = (2 : Int32)) => False.elim (by exact absurd hc23 (by decide))) (fun (hc23 : (2 : Int32) = (2 : Int32)) => ?_)
    refine own_aload X17 hx hby at_109 rfl rfl rfl ?_
    refine own_iconst X17 hx hby at_111 rfl (0 : Int32) rfl ?_
    refine own_laload X17 hx hby hZ (x0 ^^^ ((0 : Int64) &&& (x0 ^^^ x2))) rfl V17 (by decide) rfl at_112 rfl ?_
    refine own_lload X17 hx hby at_113 rfl rfl ?_
    refine own_lcmp_ne X17 hx hby at_115 at_116 (pcY := 153) (pcN := 119) (by decide) rfl (fun (hc24 : ¬ (x0 ^^^ ((0 : Int64) &&& (x0 ^^^ x2))) = x0) => False.elim (by exact hc24 (own_x0 _ _))) (fun (hc24 : (x0 ^^^ ((0 : Int64) &&& (x0 ^^^ x2))) = x0) => ?_)
    refine own_aload X17 hx hby at_119 rfl rfl rfl ?_
    refine own_iconst X17 hx hby at_121 rfl (1 : Int32) rfl ?_
    refine own_laload X17 hx hby hZ (x1 ^^^ ((0 : Int64) &&& (x1 ^^^ x3))) rfl V17 (by decide) rfl at_122 rfl ?_
    refine own_lload X17 hx hby at_123 rfl rfl ?_
    refine own_lcmp_ne X17 hx hby at_125 at_126 (pcY := 153) (pcN := 129) (by decide) rfl (fun (hc25 : ¬ (x1 ^^^ ((0 : Int64) &&& (x1 ^^^ x3))) = x1) => False.elim (by exact hc25 (own_x0 _ _))) (fun (hc25 : (x1 ^^^ ((0 : Int64) &&& (x1 ^^^ x3))) = x1) => ?_)
    refine own_aload X17 hx hby at_129 rfl rfl rfl ?_
    refine own_iconst X17 hx hby at_131 rfl (0 : Int32) rfl ?_
    refine own_laload X17 hx hby hZ x2 rfl f22 (by decide) rfl at_132 rfl ?_
    refine own_lload X17 hx hby at_133 rfl rfl ?_
    refine own_lcmp_ne X17 hx hby at_135 at_136 (pcY := 153) (pcN := 139) (by decide) rfl (fun (hc26 : ¬ x2 = x2) => False.elim (by exact hc26 rfl)) (fun (hc26 : x2 = x2) => ?_)
    refine own_aload X17 hx hby at_139 rfl rfl rfl ?_
    refine own_iconst X17 hx hby at_141 rfl (1 : Int32) rfl ?_
    refine own_laload X17 hx hby hZ x3 rfl f22 (by decide) rfl at_142 rfl ?_
    refine own_lload X17 hx hby at_143 rfl rfl ?_
    refine own_lcmp_ne X17 hx hby at_145 at_146 (pcY := 153) (pcN := 149) (by decide) rfl (fun (hc27 : ¬ x3 = x3) => False.elim (by exact hc27 rfl)) (fun (hc27 : x3 = x3) => ?_)
    refine own_iconst X17 hx hby at_149 rfl (1 : Int32) rfl ?_
    refine own_goto X17 hx hby at_150 (pc' := 154) (by decide) ?_
    refine own_ret X17 hx hby hret hlk at_154 (.int (1 : Int32)) rfl (Or.inl ⟨rfl, by simp, _, rfl⟩) (by decide) (by decide) ?_
    exact ⟨rfl, (Fr.app N16 N17q)⟩
  · -- pc 4: f
    refine own_iconst X0 hx hby at_7 rfl (1 : Int32) rfl ?_
    refine own_goto X0 hx hby at_8 (pc' := 12) (by decide) ?_
    refine own_istore X0 hx hby at_12 rfl #[.val (.long x0), .second, .val (.long x1), .second, .val (.long x2), .second, .val (.long x3), .second, .val (.int x4), .val (.int (1 : Int32)), .unset, .unset, .unset, .unset, .unset, .unset, .unset, .unset] rfl ?_
    refine own_iload X0 hx hby at_14 rfl rfl ?_
    refine own_if_eq X0 hx hby at_16 (pcY := 25) (pcN := 19) (by decide) rfl (fun (hc28 : (1 : Int32) = (0 : Int32)) => False.elim (by exact absurd hc28 (by decide))) (fun (hc28 : ¬ (1 : Int32) = (0 : Int32)) => ?_)
    refine own_ldc2J X0 hx hby hZ hown (hw _ tw_0) at_19 rfl ?_
    refine own_goto X0 hx hby at_22 (pc' := 26) (by decide) ?_
    refine own_lstore X0 hx hby at_26 rfl #[.val (.long x0), .second, .val (.long x1), .second, .val (.long x2), .second, .val (.long x3), .second, .val (.int x4), .val (.int (1 : Int32)), .val (.long (-1 : Int64)), .second, .unset, .unset, .unset, .unset, .unset, .unset] rfl ?_
    refine own_iconst X0 hx hby at_28 rfl (2 : Int32) rfl ?_
    refine own_newarray X0 hx hby hZ (aty := .long) (hw _ tw_1) e0 (by decide) 2 (by decide) (by decide) (by decide) (by decide) .long rfl [(.long (0 : Int64)), (.long (0 : Int64))] rfl at_29 rfl (fun T29 h29 b29 k29 X29 e29 g29 E29 V29 => ?_)
    have ge_b29 : n0 ≤ b29 := own_ge O g29
    refine own_astore X29 hx hby at_31 rfl #[.val (.long x0), .second, .val (.long x1), .second, .val (.long x2), .second, .val (.long x3), .second, .val (.int x4), .val (.int (1 : Int32)), .val (.long (-1 : Int64)), .second, .val (.ref b29), .unset, .unset, .unset, .unset, .unset] rfl rfl ?_
    refine own_aload X29 hx hby at_33 rfl rfl rfl ?_
    refine own_iconst X29 hx hby at_35 rfl (0 : Int32) rfl ?_
    refine own_lloadN X29 hx hby at_36 rfl rfl ?_
    refine own_lastore X29 hx hby hZ x0 rfl e29 V29 (by decide) 0 rfl (show 0 < 2 by decide) [(.long x0), (.long (0 : Int64))] rfl rfl N0 ge_b29 at_37 rfl (fun T30 h30 L30 X30 e30 W30 V30 N30 => ?_)
    refine own_aload X30 hx hby at_38 rfl rfl rfl ?_
    refine own_iconst X30 hx hby at_40 rfl (1 : Int32) rfl ?_
    refine own_lloadN X30 hx hby at_41 rfl rfl ?_
    refine own_lastore X30 hx hby hZ x1 rfl e30 V30 (by decide) 1 rfl (show 1 < 2 by decide) [(.long x0), (.long x1)] rfl rfl N30 ge_b29 at_42 rfl (fun T31 h31 L31 X31 e31 W31 V31 N31 => ?_)
    refine own_iconst X31 hx hby at_43 rfl (2 : Int32) rfl ?_
    have f33 := (((O.ext E29).wr W30 ge_b29).wr W31 ge_b29)
    refine own_newarray X31 hx hby hZ (aty := .long) (hw _ tw_1) e31 (by decide) 2 (by decide) (by decide) (by decide) (by decide) .long rfl [(.long (0 : Int64)), (.long (0 : Int64))] rfl at_44 rfl (fun T32 h32 b32 k32 X32 e32 g32 E32 V32 => ?_)
    have ge_b32 : n0 ≤ b32 := own_ge f33 g32
    have ne_b29_b32 : b29 ≠ b32 := own_lt V31.lt g32
    refine own_astore X32 hx hby at_46 rfl #[.val (.long x0), .second, .val (.long x1), .second, .val (.long x2), .second, .val (.long x3), .second, .val (.int x4), .val (.int (1 : Int32)), .val (.long (-1 : Int64)), .second, .val (.ref b29), .val (.ref b32), .unset, .unset, .unset, .unset] rfl rfl ?_
    refine own_aload X32 hx hby at_48 rfl rfl rfl ?_
    refine own_iconst X32 hx hby at_50 rfl (0 : Int32) rfl ?_
    refine own_lload X32 hx hby at_51 rfl rfl ?_
    refine own_lastore X32 hx hby hZ x2 rfl e32 V32 (by decide) 0 rfl (show 0 < 2 by decide) [(.long x2), (.long (0 : Int64))] rfl rfl N31 ge_b32 at_53 rfl (fun T34 h34 L34 X34 e34 W34 V34 N34 => ?_)
    refine own_aload X34 hx hby at_54 rfl rfl rfl ?_
    refine own_iconst X34 hx hby at_56 rfl (1 : Int32) rfl ?_
    refine own_lload X34 hx hby at_57 rfl rfl ?_
    refine own_lastore X34 hx hby hZ x3 rfl e34 V34 (by decide) 1 rfl (show 1 < 2 by decide) [(.long x2), (.long x3)] rfl rfl N34 ge_b32 at_59 rfl (fun T35 h35 L35 X35 e35 W35 V35 N35 => ?_)
    refine own_aload X35 hx hby at_60 rfl rfl rfl ?_
    refine own_aload X35 hx hby at_62 rfl rfl rfl ?_
    refine own_lload X35 hx hby at_64 rfl rfl ?_
    have f37 := (((V31.ext E32).other W34 ne_b29_b32).other W35 ne_b29_b32)
    refine own_static X35 hx hby hZ (argsL := [(.ref b29), (.ref b32), (.long (-1 : Int64))]) (rest := []) hown (hw _ tw_2) (hw _ tw_3) (hw _ tw_4) (hw _ tw_5) (by decide) (rm1 l Z a0 hw b29 b32 (-1 : Int64) h35 n0 f37 V35 ge_b29 ne_b29_b32) e35 (by rw [hml]; rfl) pd_0 rfl (by decide) (W := 0) (Nat.le_refl _) (by decide) (by decide) (by decide) at_66 rfl rfl (fun v36 T36 L36 X36 hQ36 => ?_)
    obtain ⟨rfl, N36q, K36, V36⟩ := hQ36
    show Ends p.tables e below _ (T36.setTop (mkF m 69 #[.val (.long x0), .second, .val (.long x1), .second, .val (.long x2), .second, .val (.long x3), .second, .val (.int x4), .val (.int (1 : Int32)), .val (.long (-1 : Int64)), .second, .val (.ref b29), .val (.ref b32), .unset, .unset, .unset, .unset] []))
    refine own_iload X36 hx hby at_69 rfl rfl ?_
    refine own_if_eq X36 hx hby at_71 (pcY := 79) (pcN := 74) (by decide) rfl (fun (hc38 : (1 : Int32) = (0 : Int32)) => False.elim (by exact absurd hc38 (by decide))) (fun (hc38 : ¬ (1 : Int32) = (0 : Int32)) => ?_)
    refine own_lload X36 hx hby at_74 rfl rfl ?_
    refine own_goto X36 hx hby at_76 (pc' := 80) (by decide) ?_
    refine own_lstore X36 hx hby at_80 rfl #[.val (.long x0), .second, .val (.long x1), .second, .val (.long x2), .second, .val (.long x3), .second, .val (.int x4), .val (.int (1 : Int32)), .val (.long (-1 : Int64)), .second, .val (.ref b29), .val (.ref b32), .val (.long x2), .second, .unset, .unset] rfl ?_
    refine own_iload X36 hx hby at_82 rfl rfl ?_
    refine own_if_eq X36 hx hby at_84 (pcY := 92) (pcN := 87) (by decide) rfl (fun (hc39 : (1 : Int32) = (0 : Int32)) => False.elim (by exact absurd hc39 (by decide))) (fun (hc39 : ¬ (1 : Int32) = (0 : Int32)) => ?_)
    refine own_lload X36 hx hby at_87 rfl rfl ?_
    refine own_goto X36 hx hby at_89 (pc' := 93) (by decide) ?_
    refine own_lstore X36 hx hby at_93 rfl #[.val (.long x0), .second, .val (.long x1), .second, .val (.long x2), .second, .val (.long x3), .second, .val (.int x4), .val (.int (1 : Int32)), .val (.long (-1 : Int64)), .second, .val (.ref b29), .val (.ref b32), .val (.long x2), .second, .val (.long x3), .second] rfl ?_
    refine own_aload X36 hx hby at_95 rfl rfl rfl ?_
    refine own_arraylength X36 hx hby hZ rfl V36 at_97 rfl ?_
    refine own_iconst X36 hx hby at_98 rfl (2 : Int32) rfl ?_
    refine own_icmp_ne X36 hx hby at_99 (pcY := 153) (pcN := 102) (by decide) rfl (fun (hc40 : ¬ (2 : Int32) = (2 : Int32)) => False.elim (by exact absurd hc40 (by decide))) (fun (hc40 : (2 : Int32) = (2 : Int32)) => ?_)
    refine own_aload X36 hx hby at_102 rfl rfl rfl ?_
    have f41 := (V35.keep K36 (ninS (Ne.symm ne_b29_b32) nin0))
    refine own_arraylength X36 hx hby hZ rfl f41 at_104 rfl ?_
    refine own_iconst X36 hx hby at_105 rfl (2 : Int32) rfl ?_
    refine own_icmp_ne X36 hx hby at_106 (pcY := 153) (pcN := 109) (by decide) rfl (fun (hc42 : ¬ (2 : Int32) = (2 : Int32)) => False.elim (by exact absurd hc42 (by decide))) (fun (hc42 : (2 : Int32) = (2 : Int32)) => ?_)
    refine own_aload X36 hx hby at_109 rfl rfl rfl ?_
    refine own_iconst X36 hx hby at_111 rfl (0 : Int32) rfl ?_
    refine own_laload X36 hx hby hZ (x0 ^^^ ((-1 : Int64) &&& (x0 ^^^ x2))) rfl V36 (by decide) rfl at_112 rfl ?_
    refine own_lload X36 hx hby at_113 rfl rfl ?_
    refine own_lcmp_ne X36 hx hby at_115 at_116 (pcY := 153) (pcN := 119) (by decide) rfl (fun (hc43 : ¬ (x0 ^^^ ((-1 : Int64) &&& (x0 ^^^ x2))) = x2) => False.elim (by exact hc43 (own_x1 _ _))) (fun (hc43 : (x0 ^^^ ((-1 : Int64) &&& (x0 ^^^ x2))) = x2) => ?_)
    refine own_aload X36 hx hby at_119 rfl rfl rfl ?_
    refine own_iconst X36 hx hby at_121 rfl (1 : Int32) rfl ?_
    refine own_laload X36 hx hby hZ (x1 ^^^ ((-1 : Int64) &&& (x1 ^^^ x3))) rfl V36 (by decide) rfl at_122 rfl ?_
    refine own_lload X36 hx hby at_123 rfl rfl ?_
    refine own_lcmp_ne X36 hx hby at_125 at_126 (pcY := 153) (pcN := 129) (by decide) rfl (fun (hc44 : ¬ (x1 ^^^ ((-1 : Int64) &&& (x1 ^^^ x3))) = x3) => False.elim (by exact hc44 (own_x1 _ _))) (fun (hc44 : (x1 ^^^ ((-1 : Int64) &&& (x1 ^^^ x3))) = x3) => ?_)
    refine own_aload X36 hx hby at_129 rfl rfl rfl ?_
    refine own_iconst X36 hx hby at_131 rfl (0 : Int32) rfl ?_
    refine own_laload X36 hx hby hZ x2 rfl f41 (by decide) rfl at_132 rfl ?_
    refine own_lload X36 hx hby at_133 rfl rfl ?_
    refine own_lcmp_ne X36 hx hby at_135 at_136 (pcY := 153) (pcN := 139) (by decide) rfl (fun (hc45 : ¬ x2 = x2) => False.elim (by exact hc45 rfl)) (fun (hc45 : x2 = x2) => ?_)
    refine own_aload X36 hx hby at_139 rfl rfl rfl ?_
    refine own_iconst X36 hx hby at_141 rfl (1 : Int32) rfl ?_
    refine own_laload X36 hx hby hZ x3 rfl f41 (by decide) rfl at_142 rfl ?_
    refine own_lload X36 hx hby at_143 rfl rfl ?_
    refine own_lcmp_ne X36 hx hby at_145 at_146 (pcY := 153) (pcN := 149) (by decide) rfl (fun (hc46 : ¬ x3 = x3) => False.elim (by exact hc46 rfl)) (fun (hc46 : x3 = x3) => ?_)
    refine own_iconst X36 hx hby at_149 rfl (1 : Int32) rfl ?_
    refine own_goto X36 hx hby at_150 (pc' := 154) (by decide) ?_
    refine own_ret X36 hx hby hret hlk at_154 (.int (1 : Int32)) rfl (Or.inl ⟨rfl, by simp, _, rfl⟩) (by decide) (by decide) ?_
    exact ⟨rfl, (Fr.app N35 N36q)⟩
set_option maxRecDepth 65536 in
set_option maxHeartbeats 40000000 in
theorem comes_1 {Post : Tables → Env → Array Value → State → Outcome → State → Prop} (hpost : ∀ tb e args s v u, (limb_1_1.after args s (.returned v) u = true ∧ limb_1_2.after args s (.returned v) u = true ∧ True) → FrameEnd s (.returned v) u (Jvm.fieldLocs frame_1_writes args s ++ Jvm.arrayLocs frame_1_arrays args s ++ Jvm.staticLocs frame_1_statics s) 16 128 → Post tb e args s (.returned v) u) :
    ArmFor flags0 classFile x code maxLocals ret World_1 tables_1 room_1 Calls_1 rest_1 Pre_1 Post := by
  intro l hfl _ _ p e ha hc hk s m args below hf hA hF happ hP
  obtain ⟨hcalls, hrest, hpre⟩ := hP
  obtain ⟨-, -, -, hnamed, -, -, -, hat⟩ := (Spec.applies_iff hf).mp happ
  obtain ⟨hg, hn⟩ := and_e (Cond.before_iff.mp (show (Jvm.Cond.and given_1 narrow_1).before args s = true from hpre))
  obtain ⟨hcount, hg0⟩ := and_e hg
  obtain ⟨hv0, hg1⟩ := and_e hg0
  obtain ⟨hv1, hg2⟩ := and_e hg1
  obtain ⟨hv2, hg3⟩ := and_e hg2
  obtain ⟨hv3, hg4⟩ := and_e hg3
  have hv4 := hg4
  obtain ⟨w0, w1, w2, w3, w4, rfl⟩ : ∃ w0 w1 w2 w3 w4 : Value, args = #[w0, w1, w2, w3, w4] := by
    have hs : args.size = 5 := by simpa [Cond.value, given_1] using hcount
    obtain ⟨L⟩ := args
    match L, hs with
    | [w0, w1, w2, w3, w4], _ => exact ⟨w0, w1, w2, w3, w4, rfl⟩
  have hw := fun d (hd : d ∈ tables_1) => atoms_spec (ws := Jvm.Cond.code x code maxLocals ret :: tables_1) hat d (List.mem_cons_of_mem _ hd)
  have hfit : Fit s := fun {y c} hc i hi => by
    obtain ⟨ha, rfl⟩ := Array.getElem?_eq_some_iff.mp hc
    have q := List.all_eq_true.mp ((Array.all_eq_true_iff_forall_mem.mp hF) _ (Array.getElem_mem ha)) i (List.mem_range.mpr hi)
    simpa [Array.getElem?_eq_getElem hi] using q
  obtain ⟨i0, ei0⟩ := isL_v hv0
  obtain rfl : w0 = (.long i0) := Option.some.inj ei0
  obtain ⟨i1, ei1⟩ := isL_v hv1
  obtain rfl : w1 = (.long i1) := Option.some.inj ei1
  obtain ⟨i2, ei2⟩ := isL_v hv2
  obtain rfl : w2 = (.long i2) := Option.some.inj ei2
  obtain ⟨i3, ei3⟩ := isL_v hv3
  obtain rfl : w3 = (.long i3) := Option.some.inj ei3
  obtain ⟨i4, ei4⟩ := is_v hv4
  obtain rfl : w4 = (.int i4) := Option.some.inj ei4
  obtain ⟨n, o, h1, h2, h3, _, L, rfl, ⟨rfl, N⟩, hq⟩ := rm0 l s _ hw i0 i1 i2 i3 i4 s.heap s.heap.size (Old.start s) p e ha hc hk s m _ below hf ((Spec.applies_iff_loose hf).mp happ).1 ⟨rfl, State.Warmed39.refl s, rfl⟩ trivial
  refine ⟨n, _, h1, h2, h3, hpost _ _ _ _ _ _ ⟨Cond.after_iff.mpr rfl, Cond.after_iff.mpr (eq_i res_at (Term.int_eval (1)) rfl), trivial⟩ ⟨hq.1, hq.2.1, (hq.2.2.sift fun y hy => Or.inr (N y hy)).mono (by decide) (by decide)⟩⟩
theorem main_1_1 : Claimed_1_1 := comes_1 fun _ _ _ _ _ _ h hF => ⟨h.1, hF⟩
theorem main_1_2 : Claimed_1_2 := comes_1 fun _ _ _ _ _ _ h hF => ⟨h.2.1, hF⟩
end Jvm.Pilot.@@N@@
namespace Jvm.Pilot.@@N@@
open Jvm Jvm.ClassFile Sem Op Lib Jvm.Free Jvm.Stand Jvm.Pilot.@@N@@.Jvm.D
/-! MADE BY PROGRAM (witnessworld.py) out of the Statement's table words and the real class files: 11 classes; the members and pool entries that the words name. The judged class is class 1, her method 1. -/
namespace start1
open Jvm.ClassFile
def u (s : String) : CpInfo := .utf8 (stringToUtf16 s)
/-- a pool by its gaps: so many unusable entries, then the entry; so many at the end -/
def gap : Nat → List CpInfo → List CpInfo
  | 0, r => r
  | n + 1, r => .unusable :: gap n r
def poolList (es : List (Nat × CpInfo)) (last : Nat) : List CpInfo := es.foldr (fun e r => gap e.1 (e.2 :: r)) (gap last [])
def pool (es : List (Nat × CpInfo)) (last : Nat) : Array CpInfo := ⟨poolList es last⟩
def fileOf (pool : Array CpInfo) (this : Nat) (attrs : Array Attribute := #[]) (ms : Array MethodInfo := #[]) (fl : Nat := 33) (sup : Nat := 0) (ifs : Array Nat := #[]) (fds : Array FieldInfo := #[]) : ClassFile where
  minorVersion := 0
  majorVersion := 65
  constantPool := pool
  accessFlags := fl
  thisClass := this
  superClass := sup
  interfaces := ifs
  fields := fds
  methods := ms
  attributes := attrs
def plain (name : String) (sup : Option ClassId) : Class where
  name := name
  kind := .ordinary
  loader := none
  accessFlags := 33
  super := sup
  interfaces := #[]
  cf := none
  fields := #[]
  methods := #[]
  instanceTypes := #[]
  staticTypes := #[]
  resolved := #[]
  callSites := []
  init := .initialized
  statics := none
  mirror := none

def pool0 : Array CpInfo := pool [(5, u "<init>"), (0, u "()V"), (1, .class_ 10), (1, u "java/lang/Object")] 113

def k0m0 : Method := { name := "<init>", desc := "()V", sig := { parameters := [], returnType := none }, accessFlags := 1, code := none }
/-- java/lang/Object -/
def k0 : Class := { plain "java/lang/Object" none with
  accessFlags := 33
  interfaces := #[]
  cf := some (fileOf pool0 8 #[] #[{ accessFlags := 1, nameIndex := 5, descriptorIndex := 6, attributes := #[] }] 33 0 #[] #[])
  fields := #[]
  methods := #[k0m0]
  instanceTypes := #[]
  staticTypes := #[]
  resolved := Array.replicate 124 none
  statics := none }

def pool1 : Array CpInfo := pool [(2, .class_ 4), (1, u "java/lang/Object"), (0, u "<init>"), (0, u "()V"), (0, .long 18446744073709551615), (1, .methodref 10 11), (0, .class_ 12), (0, .nameAndType 13 14), (0, u "com/example/lemniscate/lemniscate/curve/LimbField"), (0, u "copyIf"), (0, u "([J[JJ)V"), (0, .class_ 16), (0, u "com/example/lemniscate/lemniscate/curve/LimbFieldCopyIfPinLaw"), (2, u "law"), (0, u "(JJJJI)Z")] 5

def k1m0 : Method := { name := "<init>", desc := "()V", sig := { parameters := [], returnType := none }, accessFlags := 1, code := none }
def k1c1 : Code := { maxStack := 4, maxLocals := 18, code := code, exceptionTable := #[], attributes := #[] }
def k1m1 : Method := { name := "law", desc := "(JJJJI)Z", sig := { parameters := [.long, .long, .long, .long, .int], returnType := some .boolean }, accessFlags := 9, code := some k1c1 }
/-- com/example/lemniscate/lemniscate/curve/LimbFieldCopyIfPinLaw -/
def k1 : Class := { plain "com/example/lemniscate/lemniscate/curve/LimbFieldCopyIfPinLaw" (some 0) with
  accessFlags := 49
  interfaces := #[]
  cf := some (fileOf pool1 15 #[] #[{ accessFlags := 1, nameIndex := 5, descriptorIndex := 6, attributes := #[] }, { accessFlags := 9, nameIndex := 19, descriptorIndex := 20, attributes := #[] }] 49 2 #[] #[])
  fields := #[]
  methods := #[k1m0, k1m1]
  instanceTypes := #[]
  staticTypes := #[]
  resolved := Array.replicate 26 none
  statics := none }

def pool2 : Array CpInfo := pool [(2, .class_ 4), (1, u "java/lang/Object"), (11, u "Ljava/math/BigInteger;"), (14, .class_ 32), (0, u "com/example/lemniscate/lemniscate/curve/LimbField"), (2, u "p"), (2, u "limbs"), (0, u "I"), (2, u "limbBits"), (2, u "limbMask"), (0, u "J"), (2, u "topBits"), (2, u "topMask"), (36, u "fold"), (2, u "wrap"), (6, u "modulus"), (0, u "[J"), (2, u "offset"), (7, u "inverseExponent"), (0, u "[I"), (43, u "copyIf"), (0, u "([J[JJ)V"), (0, u "COLUMN_BITS"), (2, u "WINDOW_BITS")] 33

def k2c0 : Code := { maxStack := 10, maxLocals := 5, code := prog_57_method_16_code, exceptionTable := #[], attributes := #[] }
def k2m0 : Method := { name := "copyIf", desc := "([J[JJ)V", sig := { parameters := [(.array .long), (.array .long), .long], returnType := none }, accessFlags := 8, code := some k2c0 }
/-- com/example/lemniscate/lemniscate/curve/LimbField -/
def k2 : Class := { plain "com/example/lemniscate/lemniscate/curve/LimbField" (some 0) with
  accessFlags := 48
  interfaces := #[]
  cf := some (fileOf pool2 31 #[] #[{ accessFlags := 8, nameIndex := 156, descriptorIndex := 157, attributes := #[] }] 48 2 #[] #[{ accessFlags := 26, nameIndex := 158, descriptorIndex := 39, attributes := #[] }, { accessFlags := 26, nameIndex := 161, descriptorIndex := 39, attributes := #[] }, { accessFlags := 18, nameIndex := 35, descriptorIndex := 16, attributes := #[] }, { accessFlags := 18, nameIndex := 38, descriptorIndex := 39, attributes := #[] }, { accessFlags := 18, nameIndex := 42, descriptorIndex := 39, attributes := #[] }, { accessFlags := 18, nameIndex := 45, descriptorIndex := 46, attributes := #[] }, { accessFlags := 18, nameIndex := 49, descriptorIndex := 39, attributes := #[] }, { accessFlags := 18, nameIndex := 52, descriptorIndex := 46, attributes := #[] }, { accessFlags := 18, nameIndex := 89, descriptorIndex := 46, attributes := #[] }, { accessFlags := 18, nameIndex := 92, descriptorIndex := 46, attributes := #[] }, { accessFlags := 18, nameIndex := 99, descriptorIndex := 100, attributes := #[] }, { accessFlags := 18, nameIndex := 103, descriptorIndex := 100, attributes := #[] }, { accessFlags := 18, nameIndex := 111, descriptorIndex := 112, attributes := #[] }])
  fields := #[{ name := "COLUMN_BITS", type := .int, accessFlags := 26, slot := 0, constantValue := 0 }, { name := "WINDOW_BITS", type := .int, accessFlags := 26, slot := 1, constantValue := 0 }, { name := "p", type := (.object "java/math/BigInteger"), accessFlags := 18, slot := 0, constantValue := 0 }, { name := "limbs", type := .int, accessFlags := 18, slot := 1, constantValue := 0 }, { name := "limbBits", type := .int, accessFlags := 18, slot := 2, constantValue := 0 }, { name := "limbMask", type := .long, accessFlags := 18, slot := 3, constantValue := 0 }, { name := "topBits", type := .int, accessFlags := 18, slot := 4, constantValue := 0 }, { name := "topMask", type := .long, accessFlags := 18, slot := 5, constantValue := 0 }, { name := "fold", type := .long, accessFlags := 18, slot := 6, constantValue := 0 }, { name := "wrap", type := .long, accessFlags := 18, slot := 7, constantValue := 0 }, { name := "modulus", type := (.array .long), accessFlags := 18, slot := 8, constantValue := 0 }, { name := "offset", type := (.array .long), accessFlags := 18, slot := 9, constantValue := 0 }, { name := "inverseExponent", type := (.array .int), accessFlags := 18, slot := 10, constantValue := 0 }]
  methods := #[k2m0]
  instanceTypes := #[(.object "java/math/BigInteger"), .int, .int, .long, .int, .long, .long, .long, (.array .long), (.array .long), (.array .int)]
  staticTypes := #[.int, .int]
  resolved := Array.replicate 195 none
  statics := none }

def pool3 : Array CpInfo := pool [(1, u "java/lang/Cloneable"), (0, .class_ 1), (0, u "java/lang/Object"), (0, .class_ 3)] 3

/-- java/lang/Cloneable -/
def k3 : Class := { plain "java/lang/Cloneable" (some 0) with
  accessFlags := 1537
  interfaces := #[]
  cf := some (fileOf pool3 2 #[] #[] 1537 4 #[] #[])
  fields := #[]
  methods := #[]
  instanceTypes := #[]
  staticTypes := #[]
  resolved := Array.replicate 8 none
  statics := none }

def pool4 : Array CpInfo := pool [(1, u "java/io/Serializable"), (0, .class_ 1), (0, u "java/lang/Object"), (0, .class_ 3)] 3

/-- java/io/Serializable -/
def k4 : Class := { plain "java/io/Serializable" (some 0) with
  accessFlags := 1537
  interfaces := #[]
  cf := some (fileOf pool4 2 #[] #[] 1537 4 #[] #[])
  fields := #[]
  methods := #[]
  instanceTypes := #[]
  staticTypes := #[]
  resolved := Array.replicate 8 none
  statics := none }

/-- the primitive byte -/
def k5 : Class := { plain "byte" none with kind := .primitive 'B', accessFlags := 0x411 }
/-- [B -/
def k6 : Class := { plain "[B" (some 0) with kind := .array 5 .byte, interfaces := #[3, 4], accessFlags := 1041 }

/-- the primitive int -/
def k7 : Class := { plain "int" none with kind := .primitive 'I', accessFlags := 0x411 }
/-- [I -/
def k8 : Class := { plain "[I" (some 0) with kind := .array 7 .int, interfaces := #[3, 4], accessFlags := 1041 }

/-- the primitive long -/
def k9 : Class := { plain "long" none with kind := .primitive 'J', accessFlags := 0x411 }
/-- [J -/
def k10 : Class := { plain "[J" (some 0) with kind := .array 9 .long, interfaces := #[3, 4], accessFlags := 1041 }

def heap : Heap := #[]
def classes : Array Class := #[k0, k1, k2, k3, k4, k5, k6, k7, k8, k9, k10]
def interned : List (Array UInt16 × Addr) := []
def slotsUsed : Nat := 0
def theMethod : MethodId := ⟨1, 1⟩
def args0 : Array Value := #[.long 5, .long 5, .long 5, .long 5, .int 5]
def aboutOver (below : List Frame) : State where
  vm := { classes := classes, interned := interned.toArray }
  heap := heap
  slotsUsed := slotsUsed
  threads := #[{ frames := .invoking theMethod args0 :: below }]
def below0 : List Frame := [.native { method := ⟨0, 0⟩, args := #[] }]
def about1 : State := aboutOver below0
def p0 : Program := .bare "" "" ""
def e0 : Env := launch0.env 0 0 0
theorem w_frames : about1.frames = Frame.invoking theMethod args0 :: below0 := rfl
set_option maxRecDepth 65536 in
theorem w_args : argsFit about1.vm theMethod args0 = true := by decide +kernel
set_option maxRecDepth 65536 in
theorem w_heap : heapFits about1 = true := by decide +kernel
set_option maxRecDepth 65536 in
theorem w_runnable : about1.curStatus? = some .runnable := by decide +kernel
set_option maxRecDepth 65536 in
theorem w_alone : about1.alone = true := by decide +kernel
set_option maxRecDepth 65536 in
theorem w_named : about1.methodNamed? x = some theMethod := by decide +kernel
set_option maxRecDepth 65536 in
theorem w_hears : about1.hears theMethod below0 = true := by decide +kernel
set_option maxRecDepth 65536 in
theorem w_ripe : about1.ripe theMethod args0 below0 = true := by decide +kernel
theorem w_running : about1.status = .running := rfl
set_option maxRecDepth 65536 in
theorem w_room : about1.hasRoom e0.platform room_1 = true :=
  launch0.hasRoom_least _ room_1 (by decide +kernel) (by decide +kernel) (by decide +kernel) (by decide +kernel) (by decide +kernel) (by decide +kernel)
theorem allAtoms_all (ts : List Jvm.Cond) (a : Array Jvm.Value) (st : Jvm.State) : (allAtoms ts).before a st = ts.all (fun c => c.before a st) := by
  induction ts with
  | nil => rfl
  | cons c t ih =>
    show (Jvm.Cond.and c (allAtoms t)).before a st = _
    rw [Jvm.Cond.before_and, ih, List.all_cons]
def words1 : List Jvm.Cond := Jvm.Cond.code x code maxLocals ret :: tables_1
/-- a 'code' word, met by the world's own term for the bytes: nothing is compared byte by byte -/
theorem code_word {y : MethodName} {bytes : ByteArray} {mx : Nat} {rt : Option FieldType} {a : Array Value} {s : State} {m : MethodId} {meth : Method} {c : Code} (h1 : s.methodNamed? y = some m) (h2 : s.vm.method? m = some meth) (h3 : meth.code = some c) (h4 : c.code = bytes)
    (h5 : (c.maxLocals == mx && c.exceptionTable.isEmpty && decide (c.maxStack ≤ mostOperands) && decide (meth.sig.returnType = rt) && !meth.locks && decide (parseMethodDescriptor y.desc = some meth.sig)) = true) : (Jvm.Cond.code y bytes mx rt).before a s = true := by
  simp only [Bool.and_eq_true, beq_iff_eq, Bool.not_eq_true', decide_eq_true_eq] at h5
  obtain ⟨⟨⟨⟨⟨g1, g2⟩, g3⟩, g4⟩, g5⟩, g6⟩ := h5
  simp [Cond.before, Cond.holds, Cond.value, h1, h2, h3, h4, g1, g2, g3, g4, g5, g6]
def isCode : Jvm.Cond → Bool
  | .code _ _ _ _ => true
  | _ => false
theorem all_split {L : List Jvm.Cond} {P : Jvm.Cond → Bool} (h1 : L.all (fun c => isCode c || P c) = true) (h2 : ∀ c ∈ L.filter isCode, P c = true) : L.all P = true := by
  refine List.all_eq_true.mpr fun c hc => ?_
  have h := List.all_eq_true.mp h1 c hc
  rcases Bool.eq_false_or_eq_true (isCode c) with hi | hi
  · exact h2 c (List.mem_filter.mpr ⟨hc, hi⟩)
  · simpa [hi] using h
set_option maxRecDepth 65536 in
theorem w_c0 : (Jvm.Cond.code x code maxLocals ret).before args0 about1 = true := code_word (m := ⟨1, 1⟩) (meth := k1m1) (c := k1c1) (by decide +kernel) rfl rfl rfl (by decide +kernel)
set_option maxRecDepth 65536 in
theorem w_c1 : (Jvm.Cond.code ({ cls := "com/example/lemniscate/lemniscate/curve/LimbField", name := "copyIf", desc := "([J[JJ)V" } : Jvm.MethodName) prog_57_method_16_code (5 : Nat) (Option.none : Option Jvm.ClassFile.FieldType)).before args0 about1 = true := code_word (m := ⟨2, 0⟩) (meth := k2m0) (c := k2c0) (by decide +kernel) rfl rfl rfl (by decide +kernel)
def codes1 : List Jvm.Cond := [Jvm.Cond.code x code maxLocals ret, Jvm.Cond.code ({ cls := "com/example/lemniscate/lemniscate/curve/LimbField", name := "copyIf", desc := "([J[JJ)V" } : Jvm.MethodName) prog_57_method_16_code (5 : Nat) (Option.none : Option Jvm.ClassFile.FieldType)]
set_option maxRecDepth 65536 in
theorem codes_eq : words1.filter isCode = codes1 := rfl
theorem w_codes : ∀ c ∈ words1.filter isCode, c.before args0 about1 = true := by
  rw [codes_eq]
  intro c hc
  simp only [codes1, List.mem_cons, List.not_mem_nil, or_false] at hc
  rcases hc with rfl | rfl
  · exact w_c0
  · exact w_c1
set_option maxRecDepth 65536 in
theorem w_t1 : words1.all (fun c => isCode c || c.before args0 about1) = true := by decide +kernel
theorem w_tables : (allAtoms (Jvm.Cond.code x code maxLocals ret :: tables_1)).before args0 about1 = true := by
  rw [allAtoms_all]
  show words1.all (fun c => c.before args0 about1) = true
  refine all_split ?_ w_codes
  rw [w_t1]
set_option maxRecDepth 65536 in
theorem w_case : (Jvm.Cond.and given_1 narrow_1).before args0 about1 = true := by decide +kernel
theorem w_applies : (headSpec (Jvm.Cond.code x code maxLocals ret :: tables_1) room_1).applies x e0.platform about1 = true :=
  (Spec.applies_iff w_frames).mpr ⟨w_running, w_runnable, w_alone, w_named, w_hears, w_ripe, w_room, w_tables⟩
theorem atStart : AtStart classFile x code maxLocals ret World_1 tables_1 room_1 Calls_1 rest_1 Pre_1 launch0 p0 e0 about1 theMethod args0 below0 :=
  ⟨lists_1, trivial, launch0.admits_env _ _ _, launch0.least_env, fairChoices_fair.cas, fairChoices_fair.clock, w_frames, w_args, w_heap, w_applies, trivial, trivial, w_case⟩
end start1
theorem witness_1 : WitnessClaimed_1 := ⟨start1.p0, start1.e0, start1.about1, start1.theMethod, start1.args0, start1.below0, start1.atStart⟩
end Jvm.Pilot.@@N@@

import JvmDerived
import JvmDerived.Pilot.@@N@@Statement
import JvmDerived.Pilot.@@N@@Code
set_option linter.unusedVariables false
set_option linter.unusedSimpArgs false
namespace Jvm.Pilot.@@N@@
open Jvm Jvm.ClassFile Sem Op Lib Jvm.Free Jvm.Stand Jvm.LawKit Jvm.RoadKit Bundle Jvm.Pilot.@@N@@.Jvm.D
/-! THE LAYER own_: 'Ends': from this state the body ends as Q says; one lemma an instruction, over frames in the form mkF -/
section Own
variable {p : Program} {l : Launch} {e : Env} {R : Room} {s : State} {m : MethodId} {args : Array Value} {below : List Frame} {meth : Method} {c : Code} {T : State} {locs : List Loc} {cells slots : Nat}
variable {Q : Option Value → Heap → List Loc → Prop} {C S : Nat} {bc : ByteArray} {pc pc' : Nat} {Ls Ls' : Array Slot} {st : List Value} {Fz : Outcome → State → Prop}
def Ends (tb : Tables) (e : Env) (below : List Frame) (Fz : Outcome → State → Prop) (t : State) : Prop :=
  ∃ s₂ o, Steps tb e below t s₂ ∧ s₂.status = .running ∧ Ended s₂ below o ∧ Fz o s₂
def OwnFin (s : State) (Q : Option Value → Heap → List Loc → Prop) (C S : Nat) (o : Outcome) (s₂ : State) : Prop := ∃ v L, o = .returned v ∧ Q v s₂.heap L ∧ FrameEnd s o s₂ L C S
theorem Ends.of {tb : Tables} {t t' : State} (st : ∀ target, Steps tb e below t' target → Steps tb e below t target) (k : Ends tb e below Fz t') : Ends tb e below Fz t := by
  obtain ⟨s₂, o, h1, h2⟩ := k
  exact ⟨s₂, o, st _ h1, h2⟩
theorem Ends.tr {tb : Tables} {t t' : State} (st : Steps tb e below t t') (k : Ends tb e below Fz t') : Ends tb e below Fz t := Ends.of (fun _ q => st.trans q) k
theorem own_iloadN (X : Stand p l e R s m args below meth c T locs cells slots) (hx : p.tables.exec = Jvm.exec) (hby : c.code = bc) {k : Fin 4} {v : Int32} (hd : decode bc pc = .ok (.iload_n k, 1)) (hp : pc + 1 = pc') (hl : Ls[k.val]? = some (.val (.int v)))
    (kt : Ends p.tables e below Fz (T.setTop (mkF m pc' Ls (.int v :: st)))) : Ends p.tables e below Fz (T.setTop (mkF m pc Ls st)) := by
  subst hp; exact Ends.of (fun _ q => XS.iloadN X.here hx rfl (hb hby hd) hl q) kt
theorem own_aloadN (X : Stand p l e R s m args below meth c T locs cells slots) (hx : p.tables.exec = Jvm.exec) (hby : c.code = bc) {k : Fin 4} {v : Value} (hd : decode bc pc = .ok (.aload_n k, 1)) (hp : pc + 1 = pc') (hl : Ls[k.val]? = some (.val v)) (hv : v.isRef = true)
    (kt : Ends p.tables e below Fz (T.setTop (mkF m pc' Ls (v :: st)))) : Ends p.tables e below Fz (T.setTop (mkF m pc Ls st)) := by
  subst hp; exact Ends.of (fun _ q => XS.aloadN X.here hx rfl (hb hby hd) hl hv q) kt
theorem own_aload (X : Stand p l e R s m args below meth c T locs cells slots) (hx : p.tables.exec = Jvm.exec) (hby : c.code = bc) {k : Nat} {v : Value} (hd : decode bc pc = .ok (.aload k, 2)) (hp : pc + 2 = pc') (hl : Ls[k]? = some (.val v)) (hv : v.isRef = true)
    (kt : Ends p.tables e below Fz (T.setTop (mkF m pc' Ls (v :: st)))) : Ends p.tables e below Fz (T.setTop (mkF m pc Ls st)) := by
  subst hp; exact Ends.of (fun _ q => XS.aload X.here hx rfl (hb hby hd) hl hv q) kt
theorem own_istoreN (X : Stand p l e R s m args below meth c T locs cells slots) (hx : p.tables.exec = Jvm.exec) (hby : c.code = bc) {k : Fin 4} {v : Int32} (hd : decode bc pc = .ok (.istore_n k, 1)) (hp : pc + 1 = pc') (Ls' : Array Slot) (hl : storeLocals Ls k.val (.int v) = some Ls')
    (kt : Ends p.tables e below Fz (T.setTop (mkF m pc' Ls' st))) : Ends p.tables e below Fz (T.setTop (mkF m pc Ls (.int v :: st))) := by
  subst hp; exact Ends.of (fun _ q => XS.istoreN X.here hx rfl (hb hby hd) rfl hl q) kt
theorem own_astoreN (X : Stand p l e R s m args below meth c T locs cells slots) (hx : p.tables.exec = Jvm.exec) (hby : c.code = bc) {k : Fin 4} {v : Value} (hd : decode bc pc = .ok (.astore_n k, 1)) (hp : pc + 1 = pc') (Ls' : Array Slot) (hv : v.isRef = true) (hl : storeLocals Ls k.val v = some Ls')
    (kt : Ends p.tables e below Fz (T.setTop (mkF m pc' Ls' st))) : Ends p.tables e below Fz (T.setTop (mkF m pc Ls (v :: st))) := by
  subst hp; exact Ends.of (fun _ q => XS.astoreN X.here hx rfl (hb hby hd) rfl hv hl q) kt
theorem own_astore (X : Stand p l e R s m args below meth c T locs cells slots) (hx : p.tables.exec = Jvm.exec) (hby : c.code = bc) {k : Nat} {v : Value} (hd : decode bc pc = .ok (.astore k, 2)) (hp : pc + 2 = pc') (Ls' : Array Slot) (hv : v.isRef = true) (hl : storeLocals Ls k v = some Ls')
    (kt : Ends p.tables e below Fz (T.setTop (mkF m pc' Ls' st))) : Ends p.tables e below Fz (T.setTop (mkF m pc Ls (v :: st))) := by
  subst hp; exact Ends.of (fun _ q => XS.astore X.here hx rfl (hb hby hd) rfl hv hl q) kt
theorem own_iconst (X : Stand p l e R s m args below meth c T locs cells slots) (hx : p.tables.exec = Jvm.exec) (hby : c.code = bc) {i : Int} (hd : decode bc pc = .ok (.iconst i, 1)) (hp : pc + 1 = pc') (v : Int32) (hv : Int32.ofInt i = v)
    (kt : Ends p.tables e below Fz (T.setTop (mkF m pc' Ls (.int v :: st)))) : Ends p.tables e below Fz (T.setTop (mkF m pc Ls st)) := by
  subst hp; exact Ends.of (fun _ q => by subst hv; exact XS.iconst X.here hx rfl (hb hby hd) q) kt
theorem own_aconstNull (X : Stand p l e R s m args below meth c T locs cells slots) (hx : p.tables.exec = Jvm.exec) (hby : c.code = bc)  (hd : decode bc pc = .ok (.aconst_null, 1)) (hp : pc + 1 = pc')
    (kt : Ends p.tables e below Fz (T.setTop (mkF m pc' Ls (.null :: st)))) : Ends p.tables e below Fz (T.setTop (mkF m pc Ls st)) := by
  subst hp; exact Ends.of (fun _ q => XS.aconstNull X.here hx rfl (hb hby hd) q) kt
theorem own_i2b (X : Stand p l e R s m args below meth c T locs cells slots) (hx : p.tables.exec = Jvm.exec) (hby : c.code = bc) {x : Int32} (hd : decode bc pc = .ok (.i2b, 1)) (hp : pc + 1 = pc')
    (kt : Ends p.tables e below Fz (T.setTop (mkF m pc' Ls (.int x.toInt8.toInt32 :: st)))) : Ends p.tables e below Fz (T.setTop (mkF m pc Ls (.int x :: st))) := by
  subst hp; exact Ends.of (fun _ q => Jvm.Free.XT.i2b X.here hx rfl (hb hby hd) rfl q) kt
theorem own_iinc (X : Stand p l e R s m args below meth c T locs cells slots) (hx : p.tables.exec = Jvm.exec) (hby : c.code = bc) {k : Nat} {i : Int} {x : Int32} (hd : decode bc pc = .ok (.iinc k i, 3)) (hp : pc + 3 = pc') (v : Int32) (hv : Int32.ofInt i = v) (Ls' : Array Slot) (hl : Ls[k]? = some (.val (.int x))) (hl' : storeLocals Ls k (.int (x + v)) = some Ls')
    (kt : Ends p.tables e below Fz (T.setTop (mkF m pc' Ls' st))) : Ends p.tables e below Fz (T.setTop (mkF m pc Ls st)) := by
  subst hp; exact Ends.of (fun _ q => by subst hv; exact XS.iinc X.here hx rfl (hb hby hd) hl hl' q) kt
theorem own_goto (X : Stand p l e R s m args below meth c T locs cells slots) (hx : p.tables.exec = Jvm.exec) (hby : c.code = bc) {o : Int} (hd : decode bc pc = .ok (.goto o, 3)) (hp : (pc : Int) + o = (pc' : Int)) (kt : Ends p.tables e below Fz (T.setTop (mkF m pc' Ls st))) : Ends p.tables e below Fz (T.setTop (mkF m pc Ls st)) :=
  Ends.of (fun _ q => XS.goto X.here hx rfl (pc0 := pc) (pc' := pc') rfl (hb hby hd) (by rw [hp]; exact Int.natCast_nonneg _) (by rw [hp]; rfl) q) kt
theorem own_icmp_eq (X : Stand p l e R s m args below meth c T locs cells slots) (hx : p.tables.exec = Jvm.exec) (hby : c.code = bc) {x y : Int32} {o : Int} {pcY pcN : Nat} (hd : decode bc pc = .ok (.if_icmp .eq o, 3)) (hpY : (pc : Int) + o = (pcY : Int)) (hpN : pc + 3 = pcN) (kY : x = y → Ends p.tables e below Fz (T.setTop (mkF m pcY Ls st))) (kN : ¬ x = y → Ends p.tables e below Fz (T.setTop (mkF m pcN Ls st))) : Ends p.tables e below Fz (T.setTop (mkF m pc Ls (.int y :: .int x :: st))) := by
  subst hpN; by_cases h : x = y
  · exact Ends.of (fun _ q => XS.icmpYes X.here hx rfl (pc0 := pc) (pc' := pcY) rfl (hb hby hd) rfl (Jvm.Free.XT.ii_eq_t h) (by rw [hpY]; exact Int.natCast_nonneg _) (by rw [hpY]; rfl) q) (kY h)
  · exact Ends.of (fun _ q => XS.icmpNo X.here hx rfl (hb hby hd) rfl (Jvm.Free.XT.ii_eq_f h) q) (kN h)
theorem own_icmp_ne (X : Stand p l e R s m args below meth c T locs cells slots) (hx : p.tables.exec = Jvm.exec) (hby : c.code = bc) {x y : Int32} {o : Int} {pcY pcN : Nat} (hd : decode bc pc = .ok (.if_icmp .ne o, 3)) (hpY : (pc : Int) + o = (pcY : Int)) (hpN : pc + 3 = pcN) (kY : ¬ x = y → Ends p.tables e below Fz (T.setTop (mkF m pcY Ls st))) (kN : x = y → Ends p.tables e below Fz (T.setTop (mkF m pcN Ls st))) : Ends p.tables e below Fz (T.setTop (mkF m pc Ls (.int y :: .int x :: st))) := by
  subst hpN; by_cases h : x = y
  · exact Ends.of (fun _ q => XS.icmpNo X.here hx rfl (hb hby hd) rfl (Jvm.Free.XT.ii_ne_f h) q) (kN h)
  · exact Ends.of (fun _ q => XS.icmpYes X.here hx rfl (pc0 := pc) (pc' := pcY) rfl (hb hby hd) rfl (Jvm.Free.XT.ii_ne_t h) (by rw [hpY]; exact Int.natCast_nonneg _) (by rw [hpY]; rfl) q) (kY h)
theorem own_icmp_ge (X : Stand p l e R s m args below meth c T locs cells slots) (hx : p.tables.exec = Jvm.exec) (hby : c.code = bc) {x y : Int32} {o : Int} {pcY pcN : Nat} (hd : decode bc pc = .ok (.if_icmp .ge o, 3)) (hpY : (pc : Int) + o = (pcY : Int)) (hpN : pc + 3 = pcN) (kY : y.toInt ≤ x.toInt → Ends p.tables e below Fz (T.setTop (mkF m pcY Ls st))) (kN : x.toInt < y.toInt → Ends p.tables e below Fz (T.setTop (mkF m pcN Ls st))) : Ends p.tables e below Fz (T.setTop (mkF m pc Ls (.int y :: .int x :: st))) := by
  subst hpN; by_cases h : x < y
  · exact Ends.of (fun _ q => XS.icmpNo X.here hx rfl (hb hby hd) rfl (Jvm.Free.XT.ii_ge_f h) q) (kN (Int32.lt_iff_toInt_lt.mp h))
  · exact Ends.of (fun _ q => XS.icmpYes X.here hx rfl (pc0 := pc) (pc' := pcY) rfl (hb hby hd) rfl (Jvm.Free.XT.ii_ge_t h) (by rw [hpY]; exact Int.natCast_nonneg _) (by rw [hpY]; rfl) q) (kY (Int.not_lt.mp fun q => h (Int32.lt_iff_toInt_lt.mpr q)))
theorem own_acmp_eq (X : Stand p l e R s m args below meth c T locs cells slots) (hx : p.tables.exec = Jvm.exec) (hby : c.code = bc) {x y : Value} {o : Int} {pcY pcN : Nat} (hd : decode bc pc = .ok (.if_acmp .eq o, 3)) (hpY : (pc : Int) + o = (pcY : Int)) (hpN : pc + 3 = pcN) (h1 : x.isRef = true) (h2 : y.isRef = true) (kY : x = y → Ends p.tables e below Fz (T.setTop (mkF m pcY Ls st))) (kN : ¬ x = y → Ends p.tables e below Fz (T.setTop (mkF m pcN Ls st))) : Ends p.tables e below Fz (T.setTop (mkF m pc Ls (y :: x :: st))) := by
  subst hpN; by_cases h : x = y
  · exact Ends.of (fun _ q => Jvm.RoadKit.acmp (g := mkF m pc Ls (y :: x :: st)) X hx rfl h1 h2 (pc0 := pc) (same := true) rfl (hb hby hd) rfl (decide_eq_true h) (by rw [hpY]; exact Int.natCast_nonneg _) rfl (by simpa [acV, hpY] using q)) (kY h)
  · exact Ends.of (fun _ q => Jvm.RoadKit.acmp (g := mkF m pc Ls (y :: x :: st)) X hx rfl h1 h2 (pc0 := pc) (same := false) rfl (hb hby hd) rfl (decide_eq_false h) (by rw [hpY]; exact Int.natCast_nonneg _) rfl (by simpa [acV] using q)) (kN h)
theorem own_ifnullYes (X : Stand p l e R s m args below meth c T locs cells slots) (hx : p.tables.exec = Jvm.exec) (hby : c.code = bc) {o : Int} {pcY : Nat} (hd : decode bc pc = .ok (.ifnull o, 3)) (hpY : (pc : Int) + o = (pcY : Int)) (kt : Ends p.tables e below Fz (T.setTop (mkF m pcY Ls st))) : Ends p.tables e below Fz (T.setTop (mkF m pc Ls (.null :: st))) :=
  Ends.of (fun _ q => XS.ifnullYes X.here hx rfl (pc0 := pc) (pc' := pcY) rfl (hb hby hd) rfl (by rw [hpY]; exact Int.natCast_nonneg _) (by rw [hpY]; rfl) q) kt
theorem own_ifnullNo (X : Stand p l e R s m args below meth c T locs cells slots) (hx : p.tables.exec = Jvm.exec) (hby : c.code = bc) {b : Addr} {o : Int} (hd : decode bc pc = .ok (.ifnull o, 3)) (hp : pc + 3 = pc') (kt : Ends p.tables e below Fz (T.setTop (mkF m pc' Ls st))) : Ends p.tables e below Fz (T.setTop (mkF m pc Ls (.ref b :: st))) := by
  subst hp; exact Ends.of (fun _ q => XS.ifnullNo X.here hx rfl (hb hby hd) rfl q) kt
theorem own_ret (X : Stand p l e R s m args below meth c T locs cells slots) (hx : p.tables.exec = Jvm.exec) (hby : c.code = bc) {v : Value} {t : FieldType} {i : Instr} (hret : meth.sig.returnType = some t) (hk : meth.locks = false) (hd : decode bc pc = .ok (i, 1)) (v' : Value) (hn : narrow t v = v')
    (hi : (i = .ireturn ∧ (t = .int ∨ t = .boolean ∨ t = .byte ∨ t = .char ∨ t = .short) ∧ ∃ z, v = .int z) ∨ (i = .lreturn ∧ t = .long ∧ ∃ z, v = .long z) ∨ (i = .areturn ∧ t.isReference = true ∧ v.isRef = true))
    (hC : cells ≤ C) (hS : slots ≤ S) (q : Q (some v') T.heap locs) : Ends p.tables e below (OwnFin s Q C S) (T.setTop (mkF m pc Ls (v :: st))) := by
  obtain ⟨fs, hr, hrun, hended, hW, hsame⟩ := X.leave (v := some v') (fun h => by rw [hret] at h; cases h) hk
  refine ⟨_, _, ?_, hrun, hended, _, _, rfl, q, ⟨_, rfl⟩, hW, hsame.mono hC hS⟩
  have hm' : T.vm.method? m = some meth := X.method'
  show Steps p.tables e below (T.setTop { method := m, pc := pc, locals := Ls, stack := v :: st, locked := none }) _
  have hd' := hb hby hd
  rcases hi with ⟨rfl, ht, z, rfl⟩ | ⟨rfl, rfl, z, rfl⟩ | ⟨rfl, ht, hv⟩
  · rcases ht with rfl | rfl | rfl | rfl | rfl <;> (jvm_step X.here [X.here.top, hx, hd', hm', hret, hn]; first | (intro acts; rw [hr _ acts rfl rfl rfl]) | rw [hr _ _ rfl rfl rfl]) <;> exact Steps.refl _
  · have hn2 : Value.long z = v' := hn
    subst hn2
    jvm_step X.here [X.here.top, hx, hd', hm', hret, hn]
    first | (intro acts; rw [hr _ acts rfl rfl rfl]) | rw [hr _ _ rfl rfl rfl]
    exact Steps.refl _
  · have hn2 : v = v' := by rw [← hn]; rcases ref_cases hv with rfl | ⟨z, rfl⟩ <;> cases t <;> rfl
    subst hn2
    jvm_step X.here [X.here.top, hx, hd', hm', hret, hn, ht, hv]
    first | (intro acts; rw [hr _ acts rfl rfl rfl]) | rw [hr _ _ rfl rfl rfl]
    exact Steps.refl _
end Own
section OwnH
variable {p : Program} {l : Launch} {e : Env} {R : Room} {s : State} {m : MethodId} {args : Array Value} {below : List Frame} {meth : Method} {c : Code} {T : State} {locs : List Loc} {cells slots : Nat}
variable {Fz : Outcome → State → Prop} {bc : ByteArray} {pc pc' : Nat} {Ls Ls' : Array Slot} {st : List Value}
variable {Z : State} {a0 : Array Value} {h h0 : Heap} {n0 : Nat}
abbrev OwnMet (l : Launch) (Z : State) (y : MethodName) (bytes : ByteArray) (maxL : Nat) (rt : Option FieldType) (ws : List Jvm.Cond) (rm : Room) (as' : Array Value) (h0 : Heap) (Qc : Option Value → Heap → List Loc → Prop) : Prop :=
  MetFree l y (head1 (Jvm.Cond.code y bytes maxL rt :: ws) rm) (fun a U => a = as' ∧ Z.Warmed39 U.vm ∧ U.heap = h0) (fun _ _ _ _ _ => True) (fun _ U o U' => ∃ v L, o = .returned v ∧ Qc v U'.heap L ∧ FrameEnd U o U' L rm.cells rm.slots)
theorem own_body {y : MethodName} {bytes : ByteArray} {maxL : Nat} {rt : Option FieldType} {ws : List Jvm.Cond} {rm : Room} {as' : Array Value} {Qc : Option Value → Heap → List Loc → Prop} {Ls0 : Array Slot} (hpl : plainFor y = true) (hef : ∀ m : MethodId, entryFrame m as' maxL = mkF m 0 Ls0 [])
    (body : ∀ (p : Program) (e : Env) (s : State) (m : MethodId) (below : List Frame) (meth : Method) (c : Code) (s₁ : State), Stand p l e rm s m as' below meth c s₁ [] 0 0 → p.tables.exec = Jvm.exec → c.code = bytes → c.maxLocals = maxL → s.vm.findClass y.cls = some m.cls → meth.name = y.name → meth.sig.returnType = rt → meth.locks = false → Z.Warmed39 s.vm → s₁.heap = h0 → Ends p.tables e below (OwnFin s Qc rm.cells rm.slots) (s₁.setTop (mkF m 0 Ls0 []))) :
    OwnMet l Z y bytes maxL rt ws rm as' h0 Qc := by
  refine MetFree.of_bodySF hpl hisR ?_
  intro p e s m args below meth c s₁ Bd hml0 hP hK
  obtain ⟨rfl, hZ, hh⟩ := hP
  have e0 : s₁.heap = h0 := by rw [← hh, Bd.state]; rfl
  rw [hef]
  exact body p e s m below meth c s₁ (Stand.of_body Bd) Bd.exec Bd.bytes hml0 (findClass_of_methodNamed Bd.named) (name_of_methodNamed Bd.named Bd.method).1 Bd.returns Bd.notSynchronized hZ e0
theorem own_static (X : Stand p l e R s m args below meth c T locs cells slots) (hx : p.tables.exec = Jvm.exec) (hby : c.code = bc) (hZ : Z.Warmed39 s.vm) {own : String} {index : Nat} {y : MethodName} {bytes : ByteArray} {maxL : Nat} {rt r : Option FieldType} {ps : List FieldType} {rm : Room} {argsL rest : List Value} {Qc : Option Value → Heap → List Loc → Prop} {W : Nat}
    (hown : s.vm.findClass own = some m.cls) (w1 : (Jvm.Cond.methodLink own index y).before a0 Z = true) (w2 : (Jvm.Cond.static y).before a0 Z = true) (w3 : (Jvm.Cond.initialized y.cls).before a0 Z = true) (w4 : (Jvm.Cond.code y bytes maxL rt).before a0 Z = true) (hy : y.cls ≠ "java/lang/invoke/MethodHandle" ∧ y.cls ≠ "java/lang/invoke/VarHandle")
    (hM : OwnMet l Z y bytes maxL rt [] rm argsL.toArray h Qc) (eT : T.heap = h) (hml : Ls.size = c.maxLocals) (hlen : parseMethodDescriptor y.desc = some ⟨ps, r⟩) (hl : argsL.length = ps.length) (hf : rm.frames + 1 ≤ R.frames) (hW : (rest.map fun v => v.category).sum ≤ W) (hlo : W + (maxL + 11) + rm.locals ≤ R.locals) (hc : cells + rm.cells ≤ R.cells) (hs : slots + rm.slots ≤ R.slots)
    (hd : decode bc pc = .ok (.invokestatic index, 3)) (hp : pc + 3 = pc') (hst : st = argsL.reverse ++ rest)
    (kt : ∀ v T' L, Stand p l e R s m args below meth c T' (locs ++ L) (cells + rm.cells) (slots + rm.slots) → Qc v T'.heap L → Ends p.tables e below Fz (T'.setTop (mkF m pc' Ls (v.toList ++ rest)))) : Ends p.tables e below Fz (T.setTop (mkF m pc Ls st)) := by
  subst hp hst
  obtain ⟨v, vm₁, ⟨T', L', k', n'⟩, -, X', ⟨Lc, hQ, l', y', z'⟩, st⟩ := Jvm.LawKit.callS X hx (y := y) hown (mvT hZ w1) (mvT hZ w2) (mvT hZ w3) (mvT hZ w4) hy (backOf (W := W) hM hZ w4 w3 hf hlo) (g := mkF m pc Ls (argsL.reverse ++ rest)) rfl hml (argsL := argsL) (rest := rest) (lenOf hlen hl) rfl (by show 2 * 0 + _ ≤ _; omega) (hb hby hd) (fun _ _ => ⟨rfl, eT, hc, hs⟩)
  dsimp only [Pt.U, Pt.locs, Pt.cells, Pt.slots] at X' l' y' z' st hQ
  subst l' y' z'
  exact Ends.of st (kt v T' Lc X' hQ)
theorem own_virtual (X : Stand p l e R s m args below meth c T locs cells slots) (hx : p.tables.exec = Jvm.exec) (hby : c.code = bc) (hZ : Z.Warmed39 s.vm) {own Cn : String} {index : Nat} {y : MethodName} {bytes : ByteArray} {maxL : Nat} {rt r : Option FieldType} {ps : List FieldType} {rm : Room} {a : Addr} {argsL rest : List Value} {Qc : Option Value → Heap → List Loc → Prop} {W : Nat}
    (hown : s.vm.findClass own = some m.cls) (w1 : (Jvm.Cond.methodLink own index y).before a0 Z = true) (wd : (Jvm.Cond.declares y).before a0 Z = true) (ws : (Jvm.Cond.selects Cn y y).before a0 Z = true) (w2 : (Jvm.Cond.instanceMethod y).before a0 Z = true) (w3 : (Jvm.Cond.initialized y.cls).before a0 Z = true) (w4 : (Jvm.Cond.code y bytes maxL rt).before a0 Z = true) (hy : y.cls ≠ "java/lang/invoke/MethodHandle" ∧ y.cls ≠ "java/lang/invoke/VarHandle")
    (hM : OwnMet l Z y bytes maxL rt [] rm (Value.ref a :: argsL).toArray h Qc) (E : Exa Z h a Cn) (eT : T.heap = h) (hml : Ls.size = c.maxLocals) (hlen : parseMethodDescriptor y.desc = some ⟨ps, r⟩) (hl : argsL.length = ps.length) (hf : rm.frames + 1 ≤ R.frames) (hW : (rest.map fun v => v.category).sum ≤ W) (hlo : W + (maxL + 11) + rm.locals ≤ R.locals) (hc : cells + rm.cells ≤ R.cells) (hs : slots + rm.slots ≤ R.slots)
    (hd : decode bc pc = .ok (.invokevirtual index, 3)) (hp : pc + 3 = pc') (hst : st = argsL.reverse ++ Value.ref a :: rest)
    (kt : ∀ v T' L, Stand p l e R s m args below meth c T' (locs ++ L) (cells + rm.cells) (slots + rm.slots) → Qc v T'.heap L → Ends p.tables e below Fz (T'.setTop (mkF m pc' Ls (v.toList ++ rest)))) : Ends p.tables e below Fz (T.setTop (mkF m pc Ls st)) := by
  subst hp hst
  obtain ⟨cq, kq, qa, qb, qc⟩ := isOf hZ eT E
  obtain ⟨v, vm₁, ⟨T', L', k', n'⟩, -, X', ⟨Lc, hQ, l', y', z'⟩, st⟩ := X.virtualBack hx (y := y) (z := y) hown (mvT hZ w1) (mvT hZ wd) (notFace_of_selects (args := #[]) (mvT hZ ws)) (mvT hZ ws) (mvT hZ w2) hy (backOf (W := W) hM hZ w4 w3 hf hlo) qa qc (g := mkF m pc Ls (argsL.reverse ++ Value.ref a :: rest)) rfl hml (Steps.refl _) (argsL := argsL) (rest := rest) (lenOf hlen hl) rfl (by show 2 * 0 + _ ≤ _; omega) (hb hby hd) (fun _ _ => ⟨rfl, eT, hc, hs⟩)
  dsimp only [Pt.U, Pt.locs, Pt.cells, Pt.slots] at X' l' y' z' st hQ
  subst l' y' z'
  exact Ends.tr st (kt v T' Lc X' hQ)
theorem own_getfield (X : Stand p l e R s m args below meth c T locs cells slots) (hx : p.tables.exec = Jvm.exec) (hby : c.code = bc) (hZ : Z.Warmed39 s.vm) {own R0 O n d host : String} {index : Nat} {a : Addr} {v : Value}
    (hown : s.vm.findClass own = some m.cls) (w : (Jvm.Cond.fieldLink own index R0 n d).before a0 Z = true ∨ (Jvm.Cond.fieldLinkNest own index R0 n d host).before a0 Z = true) (via : Via Z R0 O n d) (eT : T.heap = h) (F : Fld Z h a O n d v)
    (hd : decode bc pc = .ok (.getfield index, 3)) (hp : pc + 3 = pc')
    (kt : ∀ T', Stand p l e R s m args below meth c T' locs cells slots → T'.heap = h → Ends p.tables e below Fz (T'.setTop (mkF m pc' Ls (v :: st)))) : Ends p.tables e below Fz (T.setTop (mkF m pc Ls (.ref a :: st))) := by
  subst hp
  obtain ⟨T', X', e', st⟩ := getF X hx hZ hown w via eT F (g := mkF m pc Ls (.ref a :: st)) rfl rfl (hb hby hd)
  exact Ends.of st (kt T' X' e')
theorem own_getstatic (X : Stand p l e R s m args below meth c T locs cells slots) (hx : p.tables.exec = Jvm.exec) (hby : c.code = bc) (hZ : Z.Warmed39 s.vm) {own R0 O n d host : String} {index : Nat} {v : Value}
    (hown : s.vm.findClass own = some m.cls) (w : (Jvm.Cond.fieldLink own index R0 n d).before a0 Z = true ∨ (Jvm.Cond.fieldLinkNest own index R0 n d host).before a0 Z = true) (via : Via Z R0 O n d) (eT : T.heap = h) (F : Sta Z h O n d v)
    (hd : decode bc pc = .ok (.getstatic index, 3)) (hp : pc + 3 = pc')
    (kt : ∀ T', Stand p l e R s m args below meth c T' locs cells slots → T'.heap = h → Ends p.tables e below Fz (T'.setTop (mkF m pc' Ls (v :: st)))) : Ends p.tables e below Fz (T.setTop (mkF m pc Ls st)) := by
  subst hp
  obtain ⟨T', X', e', st⟩ := getS2 X hx hZ hown w via eT F (g := mkF m pc Ls st) rfl (hb hby hd)
  exact Ends.of st (kt T' X' e')
theorem own_arraylength (X : Stand p l e R s m args below meth c T locs cells slots) (hx : p.tables.exec = Jvm.exec) (hby : c.code = bc) (hZ : Z.Warmed39 s.vm) {ty : FieldType} {a : Addr} {k : ClassId} {n : Int32} {vs : List Value} {dv : Value}
    (eT : T.heap = h) (V : Arv Z h a k ty n vs dv) (hd : decode bc pc = .ok (.arraylength, 1)) (hp : pc + 1 = pc')
    (kt : Ends p.tables e below Fz (T.setTop (mkF m pc' Ls (.int n :: st)))) : Ends p.tables e below Fz (T.setTop (mkF m pc Ls (.ref a :: st))) := by
  subst hp
  obtain ⟨cl, A, -, Sz, Nn, -, -⟩ := V
  exact Ends.of (fun _ q => X.arraylength hx (by rw [eT]; exact A.1) (State.isArrayOf_alike hZ.alike A.2.1) (g := mkF m pc Ls (.ref a :: st)) rfl rfl (hb hby hd) _ (by rw [len_of Sz Nn]; exact q)) kt
theorem own_aaload (X : Stand p l e R s m args below meth c T locs cells slots) (hx : p.tables.exec = Jvm.exec) (hby : c.code = bc) (hZ : Z.Warmed39 s.vm) {ty : FieldType} {a : Addr} {k : ClassId} {n j : Int32} {vs : List Value} {dv : Value} (v : Value)
    (hr : ty.isReference = true) (eT : T.heap = h) (V : Arv Z h a k ty n vs dv) (hj : ¬ j < 0 ∧ j < n) (hv : vs.getD j.toNatClampNeg dv = v) (hd : decode bc pc = .ok (.aaload, 1)) (hp : pc + 1 = pc')
    (kt : Ends p.tables e below Fz (T.setTop (mkF m pc' Ls (v :: st)))) : Ends p.tables e below Fz (T.setTop (mkF m pc Ls (.int j :: .ref a :: st))) := by
  subst hp
  obtain ⟨cl, A, -, Sz, Nn, H, -⟩ := V
  exact Ends.of (fun _ q => X.aaload hx (j := j) (v := v) (by rw [eT]; exact A.1) (State.isArrayOf_alike hZ.alike A.2.1) hr A.2.2 (inb_of Sz hj) (H.at (inb_of Sz hj) hv) (g := mkF m pc Ls (.int j :: .ref a :: st)) rfl rfl (hb hby hd) _ q) kt
theorem own_checkcast (X : Stand p l e R s m args below meth c T locs cells slots) (hx : p.tables.exec = Jvm.exec) (hby : c.code = bc) (hZ : Z.Warmed39 s.vm) {own K : String} {index : Nat} {a : Addr}
    (hown : s.vm.findClass own = some m.cls) (w : (Jvm.Cond.classLink own index K).before a0 Z = true) (eT : T.heap = h) (F : Ins Z h a K true) (hd : decode bc pc = .ok (.checkcast index, 3)) (hp : pc + 3 = pc')
    (kt : ∀ T', Stand p l e R s m args below meth c T' locs cells slots → T'.heap = h → Ends p.tables e below Fz (T'.setTop (mkF m pc' Ls (.ref a :: st)))) : Ends p.tables e below Fz (T.setTop (mkF m pc Ls (.ref a :: st))) := by
  subst hp
  obtain ⟨T', X', e', st⟩ := castY X hx hZ hown w eT F (g := mkF m pc Ls (.ref a :: st)) rfl rfl (hb hby hd)
  exact Ends.of st (kt T' X' e')
theorem own_clone (X : Stand p l e R s m args below meth c T locs cells slots) (hx : p.tables.exec = Jvm.exec) (hby : c.code = bc) (hZ : Z.Warmed39 s.vm) {own ad : String} {index : Nat} {ty : FieldType} {a : Addr} {k : ClassId} {n : Int32} {vs : List Value} {dv : Value}
    (hown : s.vm.findClass own = some m.cls) (w1 : (Jvm.Cond.methodLink own index ⟨ad, "clone", "()Ljava/lang/Object;"⟩).before a0 Z = true) (w2 : (Jvm.Cond.sameMethod ad "java/lang/Object" "clone" "()Ljava/lang/Object;").before a0 Z = true) (w3 : (Jvm.Cond.native ⟨"java/lang/Object", "clone", "()Ljava/lang/Object;"⟩).before a0 Z = true)
    (w4 : (Jvm.Cond.instanceMethod ⟨"java/lang/Object", "clone", "()Ljava/lang/Object;"⟩).before a0 Z = true) (w5 : (Jvm.Cond.selects ad ⟨ad, "clone", "()Ljava/lang/Object;"⟩ ⟨"java/lang/Object", "clone", "()Ljava/lang/Object;"⟩).before a0 Z = true) (w6 : (Jvm.Cond.castable ad "java/lang/Cloneable").before a0 Z = true)
    (eT : T.heap = h) (V : Arv Z h a k ty n vs dv) (E : Exa Z h a ad) (hml : Ls.size = c.maxLocals) (hf : 1 ≤ R.frames) {W : Nat} (cap : Nat) (hW : (st.map fun v => v.category).sum ≤ W) (hlo : W + 14 ≤ R.locals) (hcap : n.toNatClampNeg ≤ cap) (hc : cells + 1 ≤ R.cells) (hl : slots + cap ≤ R.slots)
    (hd : decode bc pc = .ok (.invokevirtual index, 3)) (hp : pc + 3 = pc')
    (kt : ∀ T' h' b, Stand p l e R s m args below meth c T' locs (cells + 1) (slots + cap) → T'.heap = h' → b = h.size → Ext h h' → Arv Z h' b k ty n vs dv → Exa Z h' b ad → Ends p.tables e below Fz (T'.setTop (mkF m pc' Ls (.ref b :: st)))) : Ends p.tables e below Fz (T.setTop (mkF m pc Ls (.ref a :: st))) := by
  subst hp
  obtain ⟨T', h', X', e', ex, V', E', st⟩ := cloneH X hx hZ hown w1 w2 w3 w4 w5 w6 eT V.arh E (g := mkF m pc Ls (.ref a :: st)) rfl hml rfl (hb hby hd) hf (W := W) (by show 2 * 0 + _ ≤ _; omega) hlo hcap hc hl
  exact Ends.of st (kt T' h' _ X' e' rfl ex V' E')
theorem own_ext {h1 h2 h3 : Heap} (E : Ext h1 h2) (E' : Ext h2 h3) : Ext h1 h3 := ⟨Nat.le_trans E.1 E'.1, fun x c q => E'.2 x c (E.2 x c q)⟩
theorem own_lt {x b : Addr} (hx : x < h.size) (g : b = h.size) : x ≠ b := by rw [g]; exact Nat.ne_of_lt hx
theorem own_eqR {args : Array Value} {X F : Term} {a : Addr} (hF : F.eval args Z none [] Z = some (.ref a)) (h : (Jvm.Cond.eq X F).value args Z none Z [] = some true) : X.eval args Z none [] Z = some (.ref a) := Jvm.Cond.eq_refs (Jvm.Cond.before_iff.mpr h) hF rfl
theorem own_enumArr {args : Array Value} {t : Term} {a : Addr} {ty : FieldType} {z : Int32} {vs : List Value} (hf : Fit Z) (ev : t.eval args Z none [] Z = some (.ref a)) (hA : (Jvm.Cond.arrayOf t ty).value args Z none Z [] = some true) (hL : (Jvm.Cond.eq (.length t) (.int z)).value args Z none Z [] = some true) (hz : ¬ z < 0) (hl : z.toNatClampNeg = vs.length) (H : ∀ cl, Z.heap[a]? = some cl → HasL cl 0 vs) : ∃ k, Arv Z Z.heap a k ty z vs .null := by
  obtain ⟨cl, A⟩ := Arr.start ev hA
  have e1 := eqv_i (Term.int_eval z) hL
  have ha : Z.arrayAt? a = some cl := Arr.fin (Vm.Alike.refl _) A
  have e2 : cl.slots.size < 2 ^ 31 ∧ cl.slots.size.toInt32 = z := by
    by_cases q : cl.slots.size < 2 ^ 31
    · rw [len_f ev ha q] at e1
      exact ⟨q, Value.int.inj (Option.some.inj e1)⟩
    · simp [Term.eval, ev, ha, q] at e1
  exact ⟨_, Arv.start hf A e2.1 e2.2 hz hl (H cl A.1)⟩
end OwnH

def OwnG (Z : State) (a__VALUES a_E521 a_NUMS256 : Addr) : Prop := (Sta Z Z.heap "com/example/lemniscate/lemniscate/crypto/Suite" "$VALUES" "[Lcom/example/lemniscate/lemniscate/crypto/Suite;" (.ref a__VALUES)) ∧ (Exa Z Z.heap a__VALUES "[Lcom/example/lemniscate/lemniscate/crypto/Suite;") ∧ (Sta Z Z.heap "com/example/lemniscate/lemniscate/crypto/Suite" "E521" "Lcom/example/lemniscate/lemniscate/crypto/Suite;" (.ref a_E521)) ∧ (Exa Z Z.heap a_E521 "com/example/lemniscate/lemniscate/crypto/Suite") ∧ (Sta Z Z.heap "com/example/lemniscate/lemniscate/crypto/Suite" "NUMS256" "Lcom/example/lemniscate/lemniscate/crypto/Suite;" (.ref a_NUMS256)) ∧ (Exa Z Z.heap a_NUMS256 "com/example/lemniscate/lemniscate/crypto/Suite") ∧ (Fld Z Z.heap a_E521 "com/example/lemniscate/lemniscate/crypto/Suite" "code" "B" (.int (1 : Int32))) ∧ (Fld Z Z.heap a_NUMS256 "com/example/lemniscate/lemniscate/crypto/Suite" "code" "B" (.int (2 : Int32))) ∧ (∃ k, Arv Z Z.heap a__VALUES k (Jvm.ClassFile.FieldType.object "com/example/lemniscate/lemniscate/crypto/Suite") (2 : Int32) [(.ref a_E521), (.ref a_NUMS256)] .null)
theorem g_S__VALUES {Z : State} {a__VALUES a_E521 a_NUMS256 : Addr} (G : OwnG Z a__VALUES a_E521 a_NUMS256) : Sta Z Z.heap "com/example/lemniscate/lemniscate/crypto/Suite" "$VALUES" "[Lcom/example/lemniscate/lemniscate/crypto/Suite;" (.ref a__VALUES) := G.1
theorem g_E__VALUES {Z : State} {a__VALUES a_E521 a_NUMS256 : Addr} (G : OwnG Z a__VALUES a_E521 a_NUMS256) : Exa Z Z.heap a__VALUES "[Lcom/example/lemniscate/lemniscate/crypto/Suite;" := G.2.1
theorem g_S_E521 {Z : State} {a__VALUES a_E521 a_NUMS256 : Addr} (G : OwnG Z a__VALUES a_E521 a_NUMS256) : Sta Z Z.heap "com/example/lemniscate/lemniscate/crypto/Suite" "E521" "Lcom/example/lemniscate/lemniscate/crypto/Suite;" (.ref a_E521) := G.2.2.1
theorem g_E_E521 {Z : State} {a__VALUES a_E521 a_NUMS256 : Addr} (G : OwnG Z a__VALUES a_E521 a_NUMS256) : Exa Z Z.heap a_E521 "com/example/lemniscate/lemniscate/crypto/Suite" := G.2.2.2.1
theorem g_S_NUMS256 {Z : State} {a__VALUES a_E521 a_NUMS256 : Addr} (G : OwnG Z a__VALUES a_E521 a_NUMS256) : Sta Z Z.heap "com/example/lemniscate/lemniscate/crypto/Suite" "NUMS256" "Lcom/example/lemniscate/lemniscate/crypto/Suite;" (.ref a_NUMS256) := G.2.2.2.2.1
theorem g_E_NUMS256 {Z : State} {a__VALUES a_E521 a_NUMS256 : Addr} (G : OwnG Z a__VALUES a_E521 a_NUMS256) : Exa Z Z.heap a_NUMS256 "com/example/lemniscate/lemniscate/crypto/Suite" := G.2.2.2.2.2.1
theorem g_F_E521_code {Z : State} {a__VALUES a_E521 a_NUMS256 : Addr} (G : OwnG Z a__VALUES a_E521 a_NUMS256) : Fld Z Z.heap a_E521 "com/example/lemniscate/lemniscate/crypto/Suite" "code" "B" (.int (1 : Int32)) := G.2.2.2.2.2.2.1
theorem g_F_NUMS256_code {Z : State} {a__VALUES a_E521 a_NUMS256 : Addr} (G : OwnG Z a__VALUES a_E521 a_NUMS256) : Fld Z Z.heap a_NUMS256 "com/example/lemniscate/lemniscate/crypto/Suite" "code" "B" (.int (2 : Int32)) := G.2.2.2.2.2.2.2.1
theorem g_V__VALUES {Z : State} {a__VALUES a_E521 a_NUMS256 : Addr} (G : OwnG Z a__VALUES a_E521 a_NUMS256) : ∃ k, Arv Z Z.heap a__VALUES k (Jvm.ClassFile.FieldType.object "com/example/lemniscate/lemniscate/crypto/Suite") (2 : Int32) [(.ref a_E521), (.ref a_NUMS256)] .null := G.2.2.2.2.2.2.2.2
theorem tw_0 : (Jvm.Cond.methodLink "com/example/lemniscate/lemniscate/crypto/SuiteFindPinLaw" (7 : Nat) ({ cls := "com/example/lemniscate/lemniscate/crypto/Suite", name := "find", desc := "(B)Lcom/example/lemniscate/lemniscate/crypto/Suite;" } : Jvm.MethodName)) ∈ tables_1 := List.mem_of_getElem? (i := 0) rfl
theorem tw_1 : (Jvm.Cond.static ({ cls := "com/example/lemniscate/lemniscate/crypto/Suite", name := "find", desc := "(B)Lcom/example/lemniscate/lemniscate/crypto/Suite;" } : Jvm.MethodName)) ∈ tables_1 := List.mem_of_getElem? (i := 1) rfl
theorem tw_2 : (Jvm.Cond.initialized "com/example/lemniscate/lemniscate/crypto/Suite") ∈ tables_1 := List.mem_of_getElem? (i := 2) rfl
theorem tw_3 : (Jvm.Cond.code ({ cls := "com/example/lemniscate/lemniscate/crypto/Suite", name := "find", desc := "(B)Lcom/example/lemniscate/lemniscate/crypto/Suite;" } : Jvm.MethodName) prog_49_method_8_code (5 : Nat) (Option.some (Jvm.ClassFile.FieldType.object "com/example/lemniscate/lemniscate/crypto/Suite"))) ∈ tables_1 := List.mem_of_getElem? (i := 3) rfl
theorem tw_4 : (Jvm.Cond.methodLink "com/example/lemniscate/lemniscate/crypto/Suite" (75 : Nat) ({ cls := "com/example/lemniscate/lemniscate/crypto/Suite", name := "values", desc := "()[Lcom/example/lemniscate/lemniscate/crypto/Suite;" } : Jvm.MethodName)) ∈ tables_1 := List.mem_of_getElem? (i := 4) rfl
theorem tw_5 : (Jvm.Cond.static ({ cls := "com/example/lemniscate/lemniscate/crypto/Suite", name := "values", desc := "()[Lcom/example/lemniscate/lemniscate/crypto/Suite;" } : Jvm.MethodName)) ∈ tables_1 := List.mem_of_getElem? (i := 5) rfl
theorem tw_6 : (Jvm.Cond.code ({ cls := "com/example/lemniscate/lemniscate/crypto/Suite", name := "values", desc := "()[Lcom/example/lemniscate/lemniscate/crypto/Suite;" } : Jvm.MethodName) prog_49_method_1_code (0 : Nat) (Option.some (Jvm.ClassFile.FieldType.array (Jvm.ClassFile.FieldType.object "com/example/lemniscate/lemniscate/crypto/Suite")))) ∈ tables_1 := List.mem_of_getElem? (i := 6) rfl
theorem tw_7 : (Jvm.Cond.fieldLink "com/example/lemniscate/lemniscate/crypto/Suite" (10 : Nat) "com/example/lemniscate/lemniscate/crypto/Suite" "$VALUES" "[Lcom/example/lemniscate/lemniscate/crypto/Suite;") ∈ tables_1 := List.mem_of_getElem? (i := 7) rfl
theorem tw_8 : (Jvm.Cond.laysStatic "com/example/lemniscate/lemniscate/crypto/Suite" "$VALUES" "[Lcom/example/lemniscate/lemniscate/crypto/Suite;") ∈ tables_1 := List.mem_of_getElem? (i := 8) rfl
theorem tw_9 : (Jvm.Cond.methodLink "com/example/lemniscate/lemniscate/crypto/Suite" (14 : Nat) ({ cls := "[Lcom/example/lemniscate/lemniscate/crypto/Suite;", name := "clone", desc := "()Ljava/lang/Object;" } : Jvm.MethodName)) ∈ tables_1 := List.mem_of_getElem? (i := 9) rfl
theorem tw_10 : (Jvm.Cond.sameMethod "[Lcom/example/lemniscate/lemniscate/crypto/Suite;" "java/lang/Object" "clone" "()Ljava/lang/Object;") ∈ tables_1 := List.mem_of_getElem? (i := 10) rfl
theorem tw_12 : (Jvm.Cond.instanceMethod ({ cls := "java/lang/Object", name := "clone", desc := "()Ljava/lang/Object;" } : Jvm.MethodName)) ∈ tables_1 := List.mem_of_getElem? (i := 12) rfl
theorem tw_13 : (Jvm.Cond.selects "[Lcom/example/lemniscate/lemniscate/crypto/Suite;" ({ cls := "[Lcom/example/lemniscate/lemniscate/crypto/Suite;", name := "clone", desc := "()Ljava/lang/Object;" } : Jvm.MethodName) ({ cls := "java/lang/Object", name := "clone", desc := "()Ljava/lang/Object;" } : Jvm.MethodName)) ∈ tables_1 := List.mem_of_getElem? (i := 13) rfl
theorem tw_14 : (Jvm.Cond.native ({ cls := "java/lang/Object", name := "clone", desc := "()Ljava/lang/Object;" } : Jvm.MethodName)) ∈ tables_1 := List.mem_of_getElem? (i := 14) rfl
theorem tw_15 : (Jvm.Cond.castable "[Lcom/example/lemniscate/lemniscate/crypto/Suite;" "java/lang/Cloneable") ∈ tables_1 := List.mem_of_getElem? (i := 15) rfl
theorem tw_16 : (Jvm.Cond.laysStatic "com/example/lemniscate/lemniscate/crypto/Suite" "E521" "Lcom/example/lemniscate/lemniscate/crypto/Suite;") ∈ tables_1 := List.mem_of_getElem? (i := 16) rfl
theorem tw_17 : (Jvm.Cond.laysStatic "com/example/lemniscate/lemniscate/crypto/Suite" "NUMS256" "Lcom/example/lemniscate/lemniscate/crypto/Suite;") ∈ tables_1 := List.mem_of_getElem? (i := 17) rfl
theorem tw_19 : (Jvm.Cond.classLink "com/example/lemniscate/lemniscate/crypto/Suite" (15 : Nat) "[Lcom/example/lemniscate/lemniscate/crypto/Suite;") ∈ tables_1 := List.mem_of_getElem? (i := 19) rfl
theorem tw_21 : (Jvm.Cond.fieldLink "com/example/lemniscate/lemniscate/crypto/Suite" (29 : Nat) "com/example/lemniscate/lemniscate/crypto/Suite" "code" "B") ∈ tables_1 := List.mem_of_getElem? (i := 21) rfl
theorem tw_23 : (Jvm.Cond.fieldLink "com/example/lemniscate/lemniscate/crypto/SuiteFindPinLaw" (17 : Nat) "com/example/lemniscate/lemniscate/crypto/Suite" "NUMS256" "Lcom/example/lemniscate/lemniscate/crypto/Suite;") ∈ tables_1 := List.mem_of_getElem? (i := 23) rfl
theorem tw_24 : (Jvm.Cond.methodLink "com/example/lemniscate/lemniscate/crypto/SuiteFindPinLaw" (20 : Nat) ({ cls := "com/example/lemniscate/lemniscate/crypto/Suite", name := "code", desc := "()B" } : Jvm.MethodName)) ∈ tables_1 := List.mem_of_getElem? (i := 24) rfl
theorem tw_25 : (Jvm.Cond.declares ({ cls := "com/example/lemniscate/lemniscate/crypto/Suite", name := "code", desc := "()B" } : Jvm.MethodName)) ∈ tables_1 := List.mem_of_getElem? (i := 25) rfl
theorem tw_26 : (Jvm.Cond.instanceMethod ({ cls := "com/example/lemniscate/lemniscate/crypto/Suite", name := "code", desc := "()B" } : Jvm.MethodName)) ∈ tables_1 := List.mem_of_getElem? (i := 26) rfl
theorem tw_27 : (Jvm.Cond.selects "com/example/lemniscate/lemniscate/crypto/Suite" ({ cls := "com/example/lemniscate/lemniscate/crypto/Suite", name := "code", desc := "()B" } : Jvm.MethodName) ({ cls := "com/example/lemniscate/lemniscate/crypto/Suite", name := "code", desc := "()B" } : Jvm.MethodName)) ∈ tables_1 := List.mem_of_getElem? (i := 27) rfl
theorem tw_28 : (Jvm.Cond.code ({ cls := "com/example/lemniscate/lemniscate/crypto/Suite", name := "code", desc := "()B" } : Jvm.MethodName) prog_49_method_4_code (1 : Nat) (Option.some Jvm.ClassFile.FieldType.byte)) ∈ tables_1 := List.mem_of_getElem? (i := 28) rfl
theorem tw_29 : (Jvm.Cond.fieldLink "com/example/lemniscate/lemniscate/crypto/SuiteFindPinLaw" (13 : Nat) "com/example/lemniscate/lemniscate/crypto/Suite" "E521" "Lcom/example/lemniscate/lemniscate/crypto/Suite;") ∈ tables_1 := List.mem_of_getElem? (i := 29) rfl
theorem d1_0 : decode prog_49_method_8_code 0 = .ok (.invokestatic 75, 3) := by decide +kernel
theorem d1_3 : decode prog_49_method_8_code 3 = .ok (.astore_n 1, 1) := by decide +kernel
theorem d1_4 : decode prog_49_method_8_code 4 = .ok (.aload_n 1, 1) := by decide +kernel
theorem d1_5 : decode prog_49_method_8_code 5 = .ok (.arraylength, 1) := by decide +kernel
theorem d1_6 : decode prog_49_method_8_code 6 = .ok (.istore_n 2, 1) := by decide +kernel
theorem d1_7 : decode prog_49_method_8_code 7 = .ok (.iconst 0, 1) := by decide +kernel
theorem d1_8 : decode prog_49_method_8_code 8 = .ok (.istore_n 3, 1) := by decide +kernel
theorem d1_9 : decode prog_49_method_8_code 9 = .ok (.iload_n 3, 1) := by decide +kernel
theorem d1_10 : decode prog_49_method_8_code 10 = .ok (.iload_n 2, 1) := by decide +kernel
theorem d1_11 : decode prog_49_method_8_code 11 = .ok (.if_icmp .ge 26, 3) := by decide +kernel
theorem d1_14 : decode prog_49_method_8_code 14 = .ok (.aload_n 1, 1) := by decide +kernel
theorem d1_15 : decode prog_49_method_8_code 15 = .ok (.iload_n 3, 1) := by decide +kernel
theorem d1_16 : decode prog_49_method_8_code 16 = .ok (.aaload, 1) := by decide +kernel
theorem d1_17 : decode prog_49_method_8_code 17 = .ok (.astore 4, 2) := by decide +kernel
theorem d1_19 : decode prog_49_method_8_code 19 = .ok (.aload 4, 2) := by decide +kernel
theorem d1_21 : decode prog_49_method_8_code 21 = .ok (.getfield 29, 3) := by decide +kernel
theorem d1_24 : decode prog_49_method_8_code 24 = .ok (.iload_n 0, 1) := by decide +kernel
theorem d1_25 : decode prog_49_method_8_code 25 = .ok (.if_icmp .ne 6, 3) := by decide +kernel
theorem d1_28 : decode prog_49_method_8_code 28 = .ok (.aload 4, 2) := by decide +kernel
theorem d1_30 : decode prog_49_method_8_code 30 = .ok (.areturn, 1) := by decide +kernel
theorem d1_31 : decode prog_49_method_8_code 31 = .ok (.iinc 3 1, 3) := by decide +kernel
theorem d1_34 : decode prog_49_method_8_code 34 = .ok (.goto (-25), 3) := by decide +kernel
theorem d1_37 : decode prog_49_method_8_code 37 = .ok (.aconst_null, 1) := by decide +kernel
theorem d1_38 : decode prog_49_method_8_code 38 = .ok (.areturn, 1) := by decide +kernel
theorem d2_0 : decode prog_49_method_1_code 0 = .ok (.getstatic 10, 3) := by decide +kernel
theorem d2_3 : decode prog_49_method_1_code 3 = .ok (.invokevirtual 14, 3) := by decide +kernel
theorem d2_6 : decode prog_49_method_1_code 6 = .ok (.checkcast 15, 3) := by decide +kernel
theorem d2_9 : decode prog_49_method_1_code 9 = .ok (.areturn, 1) := by decide +kernel
theorem d3_0 : decode prog_49_method_4_code 0 = .ok (.aload_n 0, 1) := by decide +kernel
theorem d3_1 : decode prog_49_method_4_code 1 = .ok (.getfield 29, 3) := by decide +kernel
theorem d3_4 : decode prog_49_method_4_code 4 = .ok (.ireturn, 1) := by decide +kernel
theorem pd_0 : parseMethodDescriptor "()[Lcom/example/lemniscate/lemniscate/crypto/Suite;" = some ⟨[], some (.array (.object "com/example/lemniscate/lemniscate/crypto/Suite"))⟩ := by decide +kernel
theorem pd_1 : parseMethodDescriptor "(B)Lcom/example/lemniscate/lemniscate/crypto/Suite;" = some ⟨[.byte], some (.object "com/example/lemniscate/lemniscate/crypto/Suite")⟩ := by decide +kernel
theorem pd_2 : parseMethodDescriptor "()B" = some ⟨[], some .byte⟩ := by decide +kernel
theorem pn_0 : plainName "com/example/lemniscate/lemniscate/crypto/Suite" = true := by first | (simp [plainName, overriddenIn]; done) | decide +kernel
theorem pn_1 : plainName "com/example/lemniscate/lemniscate/crypto/SuiteFindPinLaw" = true := by first | (simp [plainName, overriddenIn]; done) | decide +kernel
theorem ef_2 (m : MethodId)  : entryFrame m #[] 0 = mkF m 0 #[] [] := by first | (simp [entryFrame, mkF, argsToLocals, Value.category]; done) | rfl
theorem ef_1 (m : MethodId) (x0 : Int32) : entryFrame m #[(.int x0)] 5 = mkF m 0 #[.val (.int x0), .unset, .unset, .unset, .unset] [] := by first | (simp [entryFrame, mkF, argsToLocals, Value.category]; done) | rfl
theorem ef_3_E521 (m : MethodId) (a__VALUES a_E521 a_NUMS256 : Addr) : entryFrame m #[(.ref a_E521)] 1 = mkF m 0 #[.val (.ref a_E521)] [] := by first | (simp [entryFrame, mkF, argsToLocals, Value.category]; done) | rfl
theorem ef_3_NUMS256 (m : MethodId) (a__VALUES a_E521 a_NUMS256 : Addr) : entryFrame m #[(.ref a_NUMS256)] 1 = mkF m 0 #[.val (.ref a_NUMS256)] [] := by first | (simp [entryFrame, mkF, argsToLocals, Value.category]; done) | rfl
theorem ef_0 (m : MethodId) (x0 : Int32) : entryFrame m #[(.int x0)] maxLocals = mkF m 0 #[.val (.int x0), .unset, .unset, .unset] [] := by first | (simp [entryFrame, mkF, argsToLocals, Value.category, maxLocals]; done) | rfl
set_option maxRecDepth 65536 in
set_option maxHeartbeats 40000000 in
theorem rm2 (l : Launch) (Z : State) (a0 : Array Value) (hw : ∀ d ∈ tables_1, d.before a0 Z = true)  (h0 : Heap) {a__VALUES a_E521 a_NUMS256 : Addr} (G : OwnG Z a__VALUES a_E521 a_NUMS256) (O : Ext Z.heap h0) :
    OwnMet l Z (⟨"com/example/lemniscate/lemniscate/crypto/Suite", "values", "()[Lcom/example/lemniscate/lemniscate/crypto/Suite;"⟩ : MethodName) prog_49_method_1_code 0 (some (.array (.object "com/example/lemniscate/lemniscate/crypto/Suite"))) [] ({ frames := 1, cells := 1, slots := 2, locals := 14 } : Room) #[] h0 (fun v h L => ∃ b k, v = some (.ref b) ∧ L = [] ∧ Ext h0 h ∧ b = h0.size ∧ Arv Z h b k (Jvm.ClassFile.FieldType.object "com/example/lemniscate/lemniscate/crypto/Suite") (2 : Int32) [(.ref a_E521), (.ref a_NUMS256)] .null) := by
  refine own_body (plainFor_of_name pn_0) (fun m => ef_2 m ) ?_
  intro p e s m below meth c s₁ X0 hx hby hml hown hnm hret hlk hZ e0
  replace hown : s.vm.findClass "com/example/lemniscate/lemniscate/crypto/Suite" = some m.cls := hown
  replace hml : c.maxLocals = 0 := hml
  show Ends p.tables e below _ (s₁.setTop (mkF m 0 #[] []))
  obtain ⟨kV, VV⟩ := g_V__VALUES G
  refine own_getstatic X0 hx hby hZ hown (host := "") (Or.inl (hw _ tw_7)) Via.refl e0 ((g_S__VALUES G).ext O) d2_0 rfl (fun T1 X1 e1 => ?_)
  refine own_clone X1 hx hby hZ hown (hw _ tw_9) (hw _ tw_10) (hw _ tw_14) (hw _ tw_12) (hw _ tw_13) (hw _ tw_15) e1 (VV.ext O) ((g_E__VALUES G).ext O) (by rw [hml]; rfl) (by decide) (W := 0) 2 (by decide) (by decide) (by decide) (by decide) (by decide) d2_3 rfl (fun T2 h2 b2 X2 e2 g2 E2 V2 A2 => ?_)
  have ne_a__VALUES_b2 : a__VALUES ≠ b2 := own_lt (VV.ext O).lt g2
  refine own_checkcast X2 hx hby hZ hown (hw _ tw_19) e2 (Ins.self A2) d2_6 rfl (fun T3 X3 e3 => ?_)
  refine own_ret X3 hx hby hret hlk d2_9 (.ref b2) rfl (Or.inr (Or.inr ⟨rfl, rfl, rfl⟩)) (by decide) (by decide) ?_
  rw [e3]
  exact ⟨b2, _, rfl, rfl, E2, g2, V2⟩
set_option maxRecDepth 65536 in
set_option maxHeartbeats 40000000 in
theorem rm1 (l : Launch) (Z : State) (a0 : Array Value) (hw : ∀ d ∈ tables_1, d.before a0 Z = true) (x0 : Int32) (h0 : Heap) {a__VALUES a_E521 a_NUMS256 : Addr} (G : OwnG Z a__VALUES a_E521 a_NUMS256) (O : Ext Z.heap h0) :
    OwnMet l Z (⟨"com/example/lemniscate/lemniscate/crypto/Suite", "find", "(B)Lcom/example/lemniscate/lemniscate/crypto/Suite;"⟩ : MethodName) prog_49_method_8_code 5 (some (.object "com/example/lemniscate/lemniscate/crypto/Suite")) [] ({ frames := 2, cells := 1, slots := 2, locals := 25 } : Room) #[(.int x0)] h0 (fun v h L => (x0 = 1 ∧ v = some (.ref a_E521) ∧ L = [] ∧ Ext h0 h) ∨ (x0 = 2 ∧ v = some (.ref a_NUMS256) ∧ L = [] ∧ Ext h0 h) ∨ (¬ x0 = 1 ∧ ¬ x0 = 2 ∧ v = some .null ∧ L = [] ∧ Ext h0 h)) := by
  refine own_body (plainFor_of_name pn_0) (fun m => ef_1 m x0) ?_
  intro p e s m below meth c s₁ X0 hx hby hml hown hnm hret hlk hZ e0
  replace hown : s.vm.findClass "com/example/lemniscate/lemniscate/crypto/Suite" = some m.cls := hown
  replace hml : c.maxLocals = 5 := hml
  show Ends p.tables e below _ (s₁.setTop (mkF m 0 #[.val (.int x0), .unset, .unset, .unset, .unset] []))
  refine own_static X0 hx hby hZ (argsL := []) (rest := []) hown (hw _ tw_4) (hw _ tw_5) (hw _ tw_2) (hw _ tw_6) (by decide) (rm2 l Z a0 hw h0 G O) e0 (by rw [hml]; rfl) pd_0 rfl (by decide) (W := 0) (Nat.le_refl _) (by decide) (by decide) (by decide) d1_0 rfl rfl (fun v4 T4 L4 X4 hQ4 => ?_)
  obtain ⟨b4, k4, rfl, rfl, E4, g4, V4⟩ := hQ4
  show Ends p.tables e below _ (T4.setTop (mkF m 3 #[.val (.int x0), .unset, .unset, .unset, .unset] [(.ref b4)]))
  refine own_astoreN X4 hx hby d1_3 rfl #[.val (.int x0), .val (.ref b4), .unset, .unset, .unset] rfl rfl ?_
  refine own_aloadN X4 hx hby d1_4 rfl rfl rfl ?_
  refine own_arraylength X4 hx hby hZ rfl V4 d1_5 rfl ?_
  refine own_istoreN X4 hx hby d1_6 rfl #[.val (.int x0), .val (.ref b4), .val (.int (2 : Int32)), .unset, .unset] rfl ?_
  refine own_iconst X4 hx hby d1_7 rfl (0 : Int32) rfl ?_
  refine own_istoreN X4 hx hby d1_8 rfl #[.val (.int x0), .val (.ref b4), .val (.int (2 : Int32)), .val (.int (0 : Int32)), .unset] rfl ?_
  refine own_iloadN X4 hx hby d1_9 rfl rfl ?_
  refine own_iloadN X4 hx hby d1_10 rfl rfl ?_
  refine own_icmp_ge X4 hx hby d1_11 (pcY := 37) (pcN := 14) (by decide) rfl (fun (hc5 : 2 ≤ 0) => False.elim (by exact absurd hc5 (by decide))) (fun (hc5 : 0 < 2) => ?_)
  refine own_aloadN X4 hx hby d1_14 rfl rfl rfl ?_
  refine own_iloadN X4 hx hby d1_15 rfl rfl ?_
  refine own_aaload X4 hx hby hZ (.ref a_E521) rfl rfl V4 (by decide) rfl d1_16 rfl ?_
  refine own_astore X4 hx hby d1_17 rfl #[.val (.int x0), .val (.ref b4), .val (.int (2 : Int32)), .val (.int (0 : Int32)), .val (.ref a_E521)] rfl rfl ?_
  refine own_aload X4 hx hby d1_19 rfl rfl rfl ?_
  have f6 := (own_ext O E4)
  refine own_getfield X4 hx hby hZ hown (host := "") (Or.inl (hw _ tw_21)) Via.refl rfl ((g_F_E521_code G).ext f6) d1_21 rfl (fun T7 X7 e7 => ?_)
  refine own_iloadN X7 hx hby d1_24 rfl rfl ?_
  refine own_icmp_ne X7 hx hby d1_25 (pcY := 31) (pcN := 28) (by decide) rfl (fun (hc8 : ¬ (1 : Int32) = x0) => ?_) (fun (hc8 : (1 : Int32) = x0) => ?_)
  · -- pc 25: t
    refine own_iinc X7 hx hby d1_31 rfl (1 : Int32) rfl #[.val (.int x0), .val (.ref b4), .val (.int (2 : Int32)), .val (.int (1 : Int32)), .val (.ref a_E521)] rfl rfl ?_
    refine own_goto X7 hx hby d1_34 (pc' := 9) (by decide) ?_
    refine own_iloadN X7 hx hby d1_9 rfl rfl ?_
    refine own_iloadN X7 hx hby d1_10 rfl rfl ?_
    refine own_icmp_ge X7 hx hby d1_11 (pcY := 37) (pcN := 14) (by decide) rfl (fun (hc9 : 2 ≤ 1) => False.elim (by exact absurd hc9 (by decide))) (fun (hc9 : 1 < 2) => ?_)
    refine own_aloadN X7 hx hby d1_14 rfl rfl rfl ?_
    refine own_iloadN X7 hx hby d1_15 rfl rfl ?_
    refine own_aaload X7 hx hby hZ (.ref a_NUMS256) rfl e7 V4 (by decide) rfl d1_16 rfl ?_
    refine own_astore X7 hx hby d1_17 rfl #[.val (.int x0), .val (.ref b4), .val (.int (2 : Int32)), .val (.int (1 : Int32)), .val (.ref a_NUMS256)] rfl rfl ?_
    refine own_aload X7 hx hby d1_19 rfl rfl rfl ?_
    refine own_getfield X7 hx hby hZ hown (host := "") (Or.inl (hw _ tw_21)) Via.refl e7 ((g_F_NUMS256_code G).ext f6) d1_21 rfl (fun T10 X10 e10 => ?_)
    refine own_iloadN X10 hx hby d1_24 rfl rfl ?_
    refine own_icmp_ne X10 hx hby d1_25 (pcY := 31) (pcN := 28) (by decide) rfl (fun (hc11 : ¬ (2 : Int32) = x0) => ?_) (fun (hc11 : (2 : Int32) = x0) => ?_)
    · -- pc 25: t
      refine own_iinc X10 hx hby d1_31 rfl (1 : Int32) rfl #[.val (.int x0), .val (.ref b4), .val (.int (2 : Int32)), .val (.int (2 : Int32)), .val (.ref a_NUMS256)] rfl rfl ?_
      refine own_goto X10 hx hby d1_34 (pc' := 9) (by decide) ?_
      refine own_iloadN X10 hx hby d1_9 rfl rfl ?_
      refine own_iloadN X10 hx hby d1_10 rfl rfl ?_
      refine own_icmp_ge X10 hx hby d1_11 (pcY := 37) (pcN := 14) (by decide) rfl (fun (hc12 : 2 ≤ 2) => ?_) (fun (hc12 : 2 < 2) => False.elim (by exact absurd hc12 (by decide)))
      refine own_aconstNull X10 hx hby d1_37 rfl ?_
      refine own_ret X10 hx hby hret hlk d1_38 .null rfl (Or.inr (Or.inr ⟨rfl, rfl, rfl⟩)) (by decide) (by decide) ?_
      rw [e10]
      exact Or.inr (Or.inr ⟨fun q => hc8 q.symm, fun q => hc11 q.symm, rfl, rfl, E4⟩)
    · -- pc 25: f
      refine own_aload X10 hx hby d1_28 rfl rfl rfl ?_
      refine own_ret X10 hx hby hret hlk d1_30 (.ref a_NUMS256) rfl (Or.inr (Or.inr ⟨rfl, rfl, rfl⟩)) (by decide) (by decide) ?_
      rw [e10]
      exact Or.inr (Or.inl ⟨hc11.symm, rfl, rfl, E4⟩)
  · -- pc 25: f
    refine own_aload X7 hx hby d1_28 rfl rfl rfl ?_
    refine own_ret X7 hx hby hret hlk d1_30 (.ref a_E521) rfl (Or.inr (Or.inr ⟨rfl, rfl, rfl⟩)) (by decide) (by decide) ?_
    rw [e7]
    exact Or.inl ⟨hc8.symm, rfl, rfl, E4⟩
set_option maxRecDepth 65536 in
set_option maxHeartbeats 40000000 in
theorem rm3_E521 (l : Launch) (Z : State) (a0 : Array Value) (hw : ∀ d ∈ tables_1, d.before a0 Z = true)  (h0 : Heap) {a__VALUES a_E521 a_NUMS256 : Addr} (G : OwnG Z a__VALUES a_E521 a_NUMS256) (O : Ext Z.heap h0) :
    OwnMet l Z (⟨"com/example/lemniscate/lemniscate/crypto/Suite", "code", "()B"⟩ : MethodName) prog_49_method_4_code 1 (some .byte) [] ({ frames := 0, cells := 0, slots := 0, locals := 0 } : Room) #[(.ref a_E521)] h0 (fun v h L => v = some (.int (1 : Int32)) ∧ L = [] ∧ h = h0) := by
  refine own_body (plainFor_of_name pn_0) (fun m => ef_3_E521 m a__VALUES a_E521 a_NUMS256) ?_
  intro p e s m below meth c s₁ X0 hx hby hml hown hnm hret hlk hZ e0
  replace hown : s.vm.findClass "com/example/lemniscate/lemniscate/crypto/Suite" = some m.cls := hown
  replace hml : c.maxLocals = 1 := hml
  show Ends p.tables e below _ (s₁.setTop (mkF m 0 #[.val (.ref a_E521)] []))
  refine own_aloadN X0 hx hby d3_0 rfl rfl rfl ?_
  refine own_getfield X0 hx hby hZ hown (host := "") (Or.inl (hw _ tw_21)) Via.refl e0 ((g_F_E521_code G).ext O) d3_1 rfl (fun T13 X13 e13 => ?_)
  refine own_ret X13 hx hby hret hlk d3_4 (.int (1 : Int32)) rfl (Or.inl ⟨rfl, by simp, _, rfl⟩) (by decide) (by decide) ?_
  exact ⟨rfl, rfl, e13⟩
set_option maxRecDepth 65536 in
set_option maxHeartbeats 40000000 in
theorem rm3_NUMS256 (l : Launch) (Z : State) (a0 : Array Value) (hw : ∀ d ∈ tables_1, d.before a0 Z = true)  (h0 : Heap) {a__VALUES a_E521 a_NUMS256 : Addr} (G : OwnG Z a__VALUES a_E521 a_NUMS256) (O : Ext Z.heap h0) :
    OwnMet l Z (⟨"com/example/lemniscate/lemniscate/crypto/Suite", "code", "()B"⟩ : MethodName) prog_49_method_4_code 1 (some .byte) [] ({ frames := 0, cells := 0, slots := 0, locals := 0 } : Room) #[(.ref a_NUMS256)] h0 (fun v h L => v = some (.int (2 : Int32)) ∧ L = [] ∧ h = h0) := by
  refine own_body (plainFor_of_name pn_0) (fun m => ef_3_NUMS256 m a__VALUES a_E521 a_NUMS256) ?_
  intro p e s m below meth c s₁ X0 hx hby hml hown hnm hret hlk hZ e0
  replace hown : s.vm.findClass "com/example/lemniscate/lemniscate/crypto/Suite" = some m.cls := hown
  replace hml : c.maxLocals = 1 := hml
  show Ends p.tables e below _ (s₁.setTop (mkF m 0 #[.val (.ref a_NUMS256)] []))
  refine own_aloadN X0 hx hby d3_0 rfl rfl rfl ?_
  refine own_getfield X0 hx hby hZ hown (host := "") (Or.inl (hw _ tw_21)) Via.refl e0 ((g_F_NUMS256_code G).ext O) d3_1 rfl (fun T14 X14 e14 => ?_)
  refine own_ret X14 hx hby hret hlk d3_4 (.int (2 : Int32)) rfl (Or.inl ⟨rfl, by simp, _, rfl⟩) (by decide) (by decide) ?_
  exact ⟨rfl, rfl, e14⟩
set_option maxRecDepth 65536 in
set_option maxHeartbeats 40000000 in
theorem rm0 (l : Launch) (Z : State) (a0 : Array Value) (hw : ∀ d ∈ tables_1, d.before a0 Z = true) (x0 : Int32) (h0 : Heap) (n0 : Nat) {a__VALUES a_E521 a_NUMS256 : Addr} (G : OwnG Z a__VALUES a_E521 a_NUMS256) (O : Ext Z.heap h0) :
    OwnMet l Z x code maxLocals ret tables_1 room_1 #[(.int x0)] h0 (fun v h L => v = some (.int 1) ∧ Fr n0 L) := by
  refine own_body (plainFor_of_name pn_1) (fun m => ef_0 m x0) ?_
  intro p e s m below meth c s₁ X0 hx hby hml hown hnm hret hlk hZ e0
  replace hown : s.vm.findClass "com/example/lemniscate/lemniscate/crypto/SuiteFindPinLaw" = some m.cls := hown
  replace hml : c.maxLocals = 4 := hml
  have N0 := Fr.nil n0
  show Ends p.tables e below _ (s₁.setTop (mkF m 0 #[.val (.int x0), .unset, .unset, .unset] []))
  refine own_iloadN X0 hx hby at_0 rfl rfl ?_
  refine own_i2b X0 hx hby at_1 rfl ?_
  refine own_istoreN X0 hx hby at_2 rfl #[.val (.int x0), .val (.int x0.toInt8.toInt32), .unset, .unset] rfl ?_
  refine own_iloadN X0 hx hby at_3 rfl rfl ?_
  refine own_static X0 hx hby hZ (argsL := [(.int x0.toInt8.toInt32)]) (rest := []) hown (hw _ tw_0) (hw _ tw_1) (hw _ tw_2) (hw _ tw_3) (by decide) (rm1 l Z a0 hw x0.toInt8.toInt32 h0 G O) e0 (by rw [hml]; rfl) pd_1 rfl (by decide) (W := 0) (Nat.le_refl _) (by decide) (by decide) (by decide) at_4 rfl rfl (fun v15 T15 L15 X15 hQ15 => ?_)
  rcases hQ15 with ⟨hb, rfl, rfl, E15⟩ | ⟨hb, rfl, rfl, E15⟩ | ⟨hb1, hb2, rfl, rfl, E15⟩
  · -- 1
    show Ends p.tables e below _ (T15.setTop (mkF m 7 #[.val (.int x0), .val (.int x0.toInt8.toInt32), .unset, .unset] [(.ref a_E521)]))
    refine own_astoreN X15 hx hby at_7 rfl #[.val (.int x0), .val (.int x0.toInt8.toInt32), .val (.ref a_E521), .unset] rfl rfl ?_
    refine own_iloadN X15 hx hby at_8 rfl rfl ?_
    refine own_iconst X15 hx hby at_9 rfl (1 : Int32) rfl ?_
    refine own_icmp_ne X15 hx hby at_10 (pcY := 20) (pcN := 13) (by decide) rfl (fun (hc16 : ¬ x0.toInt8.toInt32 = (1 : Int32)) => False.elim (by exact hc16 hb)) (fun (hc16 : x0.toInt8.toInt32 = (1 : Int32)) => ?_)
    have f17 := (own_ext O E15)
    refine own_getstatic X15 hx hby hZ hown (host := "") (Or.inl (hw _ tw_29)) Via.refl rfl ((g_S_E521 G).ext f17) at_13 rfl (fun T18 X18 e18 => ?_)
    refine own_astoreN X18 hx hby at_16 rfl #[.val (.int x0), .val (.int x0.toInt8.toInt32), .val (.ref a_E521), .val (.ref a_E521)] rfl rfl ?_
    refine own_goto X18 hx hby at_17 (pc' := 34) (by decide) ?_
    refine own_aloadN X18 hx hby at_34 rfl rfl rfl ?_
    refine own_aloadN X18 hx hby at_35 rfl rfl rfl ?_
    refine own_acmp_eq X18 hx hby at_36 (pcY := 41) (pcN := 39) (by decide) rfl rfl rfl (fun (hc19 : ((.ref a_E521) : Value) = (.ref a_E521)) => ?_) (fun (hc19 : ¬ ((.ref a_E521) : Value) = (.ref a_E521)) => False.elim (by exact hc19 rfl))
    refine own_aloadN X18 hx hby at_41 rfl rfl rfl ?_
    refine own_ifnullNo X18 hx hby at_42 rfl ?_
    refine own_aloadN X18 hx hby at_45 rfl rfl rfl ?_
    refine own_virtual X18 hx hby hZ (Cn := "com/example/lemniscate/lemniscate/crypto/Suite") (a := a_E521) (argsL := []) (rest := []) hown (hw _ tw_24) (hw _ tw_25) (hw _ tw_27) (hw _ tw_26) (hw _ tw_2) (hw _ tw_28) (by decide) (rm3_E521 l Z a0 hw T15.heap G f17) ((g_E_E521 G).ext f17) e18 (by rw [hml]; rfl) pd_2 rfl (by decide) (W := 0) (Nat.le_refl _) (by decide) (by decide) (by decide) at_46 rfl rfl (fun v20 T20 L20 X20 hQ20 => ?_)
    obtain ⟨rfl, rfl, e20⟩ := hQ20
    show Ends p.tables e below _ (T20.setTop (mkF m 49 #[.val (.int x0), .val (.int x0.toInt8.toInt32), .val (.ref a_E521), .val (.ref a_E521)] [(.int (1 : Int32))]))
    refine own_iloadN X20 hx hby at_49 rfl rfl ?_
    refine own_icmp_eq X20 hx hby at_50 (pcY := 55) (pcN := 53) (by decide) rfl (fun (hc21 : (1 : Int32) = x0.toInt8.toInt32) => ?_) (fun (hc21 : ¬ (1 : Int32) = x0.toInt8.toInt32) => False.elim (by exact hc21 hb.symm))
    refine own_iconst X20 hx hby at_55 rfl (1 : Int32) rfl ?_
    refine own_ret X20 hx hby hret hlk at_56 (.int (1 : Int32)) rfl (Or.inl ⟨rfl, by simp, _, rfl⟩) (by decide) (by decide) ?_
    exact ⟨rfl, (Fr.app (Fr.app N0 (Fr.nil _)) (Fr.nil _))⟩
  · -- 2
    show Ends p.tables e below _ (T15.setTop (mkF m 7 #[.val (.int x0), .val (.int x0.toInt8.toInt32), .unset, .unset] [(.ref a_NUMS256)]))
    refine own_astoreN X15 hx hby at_7 rfl #[.val (.int x0), .val (.int x0.toInt8.toInt32), .val (.ref a_NUMS256), .unset] rfl rfl ?_
    refine own_iloadN X15 hx hby at_8 rfl rfl ?_
    refine own_iconst X15 hx hby at_9 rfl (1 : Int32) rfl ?_
    refine own_icmp_ne X15 hx hby at_10 (pcY := 20) (pcN := 13) (by decide) rfl (fun (hc22 : ¬ x0.toInt8.toInt32 = (1 : Int32)) => ?_) (fun (hc22 : x0.toInt8.toInt32 = (1 : Int32)) => False.elim (by exact absurd (hb.symm.trans hc22) (by decide)))
    refine own_iloadN X15 hx hby at_20 rfl rfl ?_
    refine own_iconst X15 hx hby at_21 rfl (2 : Int32) rfl ?_
    refine own_icmp_ne X15 hx hby at_22 (pcY := 32) (pcN := 25) (by decide) rfl (fun (hc23 : ¬ x0.toInt8.toInt32 = (2 : Int32)) => False.elim (by exact hc23 hb)) (fun (hc23 : x0.toInt8.toInt32 = (2 : Int32)) => ?_)
    have f24 := (own_ext O E15)
    refine own_getstatic X15 hx hby hZ hown (host := "") (Or.inl (hw _ tw_23)) Via.refl rfl ((g_S_NUMS256 G).ext f24) at_25 rfl (fun T25 X25 e25 => ?_)
    refine own_astoreN X25 hx hby at_28 rfl #[.val (.int x0), .val (.int x0.toInt8.toInt32), .val (.ref a_NUMS256), .val (.ref a_NUMS256)] rfl rfl ?_
    refine own_goto X25 hx hby at_29 (pc' := 34) (by decide) ?_
    refine own_aloadN X25 hx hby at_34 rfl rfl rfl ?_
    refine own_aloadN X25 hx hby at_35 rfl rfl rfl ?_
    refine own_acmp_eq X25 hx hby at_36 (pcY := 41) (pcN := 39) (by decide) rfl rfl rfl (fun (hc26 : ((.ref a_NUMS256) : Value) = (.ref a_NUMS256)) => ?_) (fun (hc26 : ¬ ((.ref a_NUMS256) : Value) = (.ref a_NUMS256)) => False.elim (by exact hc26 rfl))
    refine own_aloadN X25 hx hby at_41 rfl rfl rfl ?_
    refine own_ifnullNo X25 hx hby at_42 rfl ?_
    refine own_aloadN X25 hx hby at_45 rfl rfl rfl ?_
    refine own_virtual X25 hx hby hZ (Cn := "com/example/lemniscate/lemniscate/crypto/Suite") (a := a_NUMS256) (argsL := []) (rest := []) hown (hw _ tw_24) (hw _ tw_25) (hw _ tw_27) (hw _ tw_26) (hw _ tw_2) (hw _ tw_28) (by decide) (rm3_NUMS256 l Z a0 hw T15.heap G f24) ((g_E_NUMS256 G).ext f24) e25 (by rw [hml]; rfl) pd_2 rfl (by decide) (W := 0) (Nat.le_refl _) (by decide) (by decide) (by decide) at_46 rfl rfl (fun v27 T27 L27 X27 hQ27 => ?_)
    obtain ⟨rfl, rfl, e27⟩ := hQ27
    show Ends p.tables e below _ (T27.setTop (mkF m 49 #[.val (.int x0), .val (.int x0.toInt8.toInt32), .val (.ref a_NUMS256), .val (.ref a_NUMS256)] [(.int (2 : Int32))]))
    refine own_iloadN X27 hx hby at_49 rfl rfl ?_
    refine own_icmp_eq X27 hx hby at_50 (pcY := 55) (pcN := 53) (by decide) rfl (fun (hc28 : (2 : Int32) = x0.toInt8.toInt32) => ?_) (fun (hc28 : ¬ (2 : Int32) = x0.toInt8.toInt32) => False.elim (by exact hc28 hb.symm))
    refine own_iconst X27 hx hby at_55 rfl (1 : Int32) rfl ?_
    refine own_ret X27 hx hby hret hlk at_56 (.int (1 : Int32)) rfl (Or.inl ⟨rfl, by simp, _, rfl⟩) (by decide) (by decide) ?_
    exact ⟨rfl, (Fr.app (Fr.app N0 (Fr.nil _)) (Fr.nil _))⟩
  · -- none
    show Ends p.tables e below _ (T15.setTop (mkF m 7 #[.val (.int x0), .val (.int x0.toInt8.toInt32), .unset, .unset] [.null]))
    refine own_astoreN X15 hx hby at_7 rfl #[.val (.int x0), .val (.int x0.toInt8.toInt32), .val .null, .unset] rfl rfl ?_
    refine own_iloadN X15 hx hby at_8 rfl rfl ?_
    refine own_iconst X15 hx hby at_9 rfl (1 : Int32) rfl ?_
    refine own_icmp_ne X15 hx hby at_10 (pcY := 20) (pcN := 13) (by decide) rfl (fun (hc29 : ¬ x0.toInt8.toInt32 = (1 : Int32)) => ?_) (fun (hc29 : x0.toInt8.toInt32 = (1 : Int32)) => False.elim (by exact hb1 hc29))
    refine own_iloadN X15 hx hby at_20 rfl rfl ?_
    refine own_iconst X15 hx hby at_21 rfl (2 : Int32) rfl ?_
    refine own_icmp_ne X15 hx hby at_22 (pcY := 32) (pcN := 25) (by decide) rfl (fun (hc30 : ¬ x0.toInt8.toInt32 = (2 : Int32)) => ?_) (fun (hc30 : x0.toInt8.toInt32 = (2 : Int32)) => False.elim (by exact hb2 hc30))
    refine own_aconstNull X15 hx hby at_32 rfl ?_
    refine own_astoreN X15 hx hby at_33 rfl #[.val (.int x0), .val (.int x0.toInt8.toInt32), .val .null, .val .null] rfl rfl ?_
    refine own_aloadN X15 hx hby at_34 rfl rfl rfl ?_
    refine own_aloadN X15 hx hby at_35 rfl rfl rfl ?_
    refine own_acmp_eq X15 hx hby at_36 (pcY := 41) (pcN := 39) (by decide) rfl rfl rfl (fun (hc31 : (.null : Value) = .null) => ?_) (fun (hc31 : ¬ (.null : Value) = .null) => False.elim (by exact hc31 rfl))
    refine own_aloadN X15 hx hby at_41 rfl rfl rfl ?_
    refine own_ifnullYes X15 hx hby at_42 (pcY := 55) (by decide) ?_
    refine own_iconst X15 hx hby at_55 rfl (1 : Int32) rfl ?_
    refine own_ret X15 hx hby hret hlk at_56 (.int (1 : Int32)) rfl (Or.inl ⟨rfl, by simp, _, rfl⟩) (by decide) (by decide) ?_
    exact ⟨rfl, (Fr.app N0 (Fr.nil _))⟩
set_option maxRecDepth 65536 in
set_option maxHeartbeats 40000000 in
theorem comes_1 {Post : Tables → Env → Array Value → State → Outcome → State → Prop} (hpost : ∀ tb e args s v u, (limb_1_1.after args s (.returned v) u = true ∧ limb_1_2.after args s (.returned v) u = true ∧ True) → FrameEnd s (.returned v) u (Jvm.fieldLocs frame_1_writes args s ++ Jvm.arrayLocs frame_1_arrays args s ++ Jvm.staticLocs frame_1_statics s) 16 128 → Post tb e args s (.returned v) u) :
    ArmFor flags0 classFile x code maxLocals ret World_1 tables_1 room_1 Calls_1 rest_1 Pre_1 Post := by
  intro l hfl _ _ p e ha hc hk s m args below hf hA hF happ hP
  obtain ⟨hcalls, hrest, hpre⟩ := hP
  obtain ⟨-, -, -, hnamed, -, -, -, hat⟩ := (Spec.applies_iff hf).mp happ
  obtain ⟨hg, hn⟩ := and_e (Cond.before_iff.mp (show (Jvm.Cond.and given_1 narrow_1).before args s = true from hpre))
  obtain ⟨hcount, hg0⟩ := and_e hg
  have hv0 := hg0
  obtain ⟨w0, rfl⟩ : ∃ w0 : Value, args = #[w0] := by
    have hs : args.size = 1 := by simpa [Cond.value, given_1] using hcount
    obtain ⟨L⟩ := args
    match L, hs with
    | [w0], _ => exact ⟨w0, rfl⟩
  have hw := fun d (hd : d ∈ tables_1) => atoms_spec (ws := Jvm.Cond.code x code maxLocals ret :: tables_1) hat d (List.mem_cons_of_mem _ hd)
  have hfit : Fit s := fun {y c} hc i hi => by
    obtain ⟨ha, rfl⟩ := Array.getElem?_eq_some_iff.mp hc
    have q := List.all_eq_true.mp ((Array.all_eq_true_iff_forall_mem.mp hF) _ (Array.getElem_mem ha)) i (List.mem_range.mpr hi)
    simpa [Array.getElem?_eq_getElem hi] using q
  obtain ⟨i0, ei0⟩ := is_v hv0
  obtain rfl : w0 = (.int i0) := Option.some.inj ei0
  obtain ⟨n0, hn0⟩ := and_e hn
  obtain ⟨n1, hn1⟩ := and_e hn0
  obtain ⟨n2, hn2⟩ := and_e hn1
  obtain ⟨n3, hn3⟩ := and_e hn2
  obtain ⟨n4, hn4⟩ := and_e hn3
  obtain ⟨n5, hn5⟩ := and_e hn4
  obtain ⟨n6, hn6⟩ := and_e hn5
  obtain ⟨n7, hn7⟩ := and_e hn6
  have n8 := hn7
  obtain ⟨a__VALUES, ev__VALUES⟩ := arr_v n0
  have S__VALUES : Sta s s.heap "com/example/lemniscate/lemniscate/crypto/Suite" "$VALUES" "[Lcom/example/lemniscate/lemniscate/crypto/Suite;" (.ref a__VALUES) := Sta.start ev__VALUES (Or.inr ⟨(hw _ tw_2), (hw _ tw_8)⟩)
  have E__VALUES : Exa s s.heap a__VALUES "[Lcom/example/lemniscate/lemniscate/crypto/Suite;" := Exa.start ev__VALUES n1
  obtain ⟨a_E521, ev_E521⟩ := exa_v n3
  have S_E521 : Sta s s.heap "com/example/lemniscate/lemniscate/crypto/Suite" "E521" "Lcom/example/lemniscate/lemniscate/crypto/Suite;" (.ref a_E521) := Sta.start ev_E521 (Or.inr ⟨(hw _ tw_2), (hw _ tw_16)⟩)
  have E_E521 : Exa s s.heap a_E521 "com/example/lemniscate/lemniscate/crypto/Suite" := Exa.start ev_E521 n3
  obtain ⟨a_NUMS256, ev_NUMS256⟩ := exa_v n5
  have S_NUMS256 : Sta s s.heap "com/example/lemniscate/lemniscate/crypto/Suite" "NUMS256" "Lcom/example/lemniscate/lemniscate/crypto/Suite;" (.ref a_NUMS256) := Sta.start ev_NUMS256 (Or.inr ⟨(hw _ tw_2), (hw _ tw_17)⟩)
  have E_NUMS256 : Exa s s.heap a_NUMS256 "com/example/lemniscate/lemniscate/crypto/Suite" := Exa.start ev_NUMS256 n5
  have F_E521_code : Fld s s.heap a_E521 "com/example/lemniscate/lemniscate/crypto/Suite" "code" "B" (.int (1 : Int32)) := Fld.start ((fld_at ev_E521).symm.trans (eqv_i (Term.int_eval _) n7))
  have F_NUMS256_code : Fld s s.heap a_NUMS256 "com/example/lemniscate/lemniscate/crypto/Suite" "code" "B" (.int (2 : Int32)) := Fld.start ((fld_at ev_NUMS256).symm.trans (eqv_i (Term.int_eval _) n8))
  have V__VALUES : ∃ k, Arv s s.heap a__VALUES k (Jvm.ClassFile.FieldType.object "com/example/lemniscate/lemniscate/crypto/Suite") (2 : Int32) [(.ref a_E521), (.ref a_NUMS256)] .null := own_enumArr hfit ev__VALUES n0 n2 (by decide) rfl (fun cl hc => ⟨(elem_in (own_eqR ev_E521 n4) ev__VALUES (Term.int_eval _) hc).2, (elem_in (own_eqR ev_NUMS256 n6) ev__VALUES (Term.int_eval _) hc).2, trivial⟩)
  have G : OwnG s a__VALUES a_E521 a_NUMS256 := ⟨S__VALUES, E__VALUES, S_E521, E_E521, S_NUMS256, E_NUMS256, F_E521_code, F_NUMS256_code, V__VALUES⟩
  obtain ⟨n, o, h1, h2, h3, _, L, rfl, ⟨rfl, N⟩, hq⟩ := rm0 l s _ hw i0 s.heap s.heap.size G ⟨Nat.le_refl _, fun _ _ q => q⟩ p e ha hc hk s m _ below hf ((Spec.applies_iff_loose hf).mp happ).1 ⟨rfl, State.Warmed39.refl s, rfl⟩ trivial
  refine ⟨n, _, h1, h2, h3, hpost _ _ _ _ _ _ ⟨Cond.after_iff.mpr rfl, Cond.after_iff.mpr (eq_i res_at (Term.int_eval (1)) rfl), trivial⟩ ⟨hq.1, hq.2.1, (hq.2.2.sift fun y hy => Or.inr (N y hy)).mono (by decide) (by decide)⟩⟩
theorem main_1_1 : Claimed_1_1 := comes_1 fun _ _ _ _ _ _ h hF => ⟨h.1, hF⟩
theorem main_1_2 : Claimed_1_2 := comes_1 fun _ _ _ _ _ _ h hF => ⟨h.2.1, hF⟩
end Jvm.Pilot.@@N@@
namespace Jvm.Pilot.@@N@@
open Jvm Jvm.ClassFile Sem Op Lib Jvm.Free Jvm.Stand Jvm.Pilot.@@N@@.Jvm.D
/-! MADE BY PROGRAM (witnessworld.py) out of the Statement's table words and the real class files: 13 classes; the members and pool entries that the words name. The judged class is class 1, her method 1. -/
namespace start1
open Jvm.ClassFile
def u (s : String) : CpInfo := .utf8 (stringToUtf16 s)
/-- a pool by its gaps: so many unusable entries, then the entry; so many at the end -/
def gap : Nat → List CpInfo → List CpInfo
  | 0, r => r
  | n + 1, r => .unusable :: gap n r
def poolList (es : List (Nat × CpInfo)) (last : Nat) : List CpInfo := es.foldr (fun e r => gap e.1 (e.2 :: r)) (gap last [])
def pool (es : List (Nat × CpInfo)) (last : Nat) : Array CpInfo := ⟨poolList es last⟩
def fileOf (pool : Array CpInfo) (this : Nat) (attrs : Array Attribute := #[]) (ms : Array MethodInfo := #[]) (fl : Nat := 33) (sup : Nat := 0) (ifs : Array Nat := #[]) (fds : Array FieldInfo := #[]) : ClassFile where
  minorVersion := 0
  majorVersion := 65
  constantPool := pool
  accessFlags := fl
  thisClass := this
  superClass := sup
  interfaces := ifs
  fields := fds
  methods := ms
  attributes := attrs
def plain (name : String) (sup : Option ClassId) : Class where
  name := name
  kind := .ordinary
  loader := none
  accessFlags := 33
  super := sup
  interfaces := #[]
  cf := none
  fields := #[]
  methods := #[]
  instanceTypes := #[]
  staticTypes := #[]
  resolved := #[]
  callSites := []
  init := .initialized
  statics := none
  mirror := none

def pool0 : Array CpInfo := pool [(5, u "<init>"), (0, u "()V"), (1, .class_ 10), (1, u "java/lang/Object"), (85, u "clone"), (0, u "()Ljava/lang/Object;")] 26

def k0m0 : Method := { name := "<init>", desc := "()V", sig := { parameters := [], returnType := none }, accessFlags := 1, code := none }
def k0m1 : Method := { name := "clone", desc := "()Ljava/lang/Object;", sig := { parameters := [], returnType := some (.object "java/lang/Object") }, accessFlags := 260, code := none }
/-- java/lang/Object -/
def k0 : Class := { plain "java/lang/Object" none with
  accessFlags := 33
  interfaces := #[]
  cf := some (fileOf pool0 8 #[] #[{ accessFlags := 1, nameIndex := 5, descriptorIndex := 6, attributes := #[] }, { accessFlags := 260, nameIndex := 96, descriptorIndex := 97, attributes := #[] }] 33 0 #[] #[])
  fields := #[]
  methods := #[k0m0, k0m1]
  instanceTypes := #[]
  staticTypes := #[]
  resolved := Array.replicate 124 none
  statics := none }

def pool1 : Array CpInfo := pool [(2, .class_ 4), (1, u "java/lang/Object"), (0, u "<init>"), (0, u "()V"), (0, .methodref 8 9), (0, .class_ 10), (0, .nameAndType 11 12), (0, u "com/example/lemniscate/lemniscate/crypto/Suite"), (0, u "find"), (0, u "(B)Lcom/example/lemniscate/lemniscate/crypto/Suite;"), (0, .fieldref 8 14), (0, .nameAndType 15 16), (0, u "E521"), (0, u "Lcom/example/lemniscate/lemniscate/crypto/Suite;"), (0, .fieldref 8 18), (0, .nameAndType 19 16), (0, u "NUMS256"), (0, .methodref 8 21), (0, .nameAndType 22 23), (0, u "code"), (0, u "()B"), (0, .class_ 25), (0, u "com/example/lemniscate/lemniscate/crypto/SuiteFindPinLaw"), (2, u "law"), (0, u "(I)Z")] 3

def k1m0 : Method := { name := "<init>", desc := "()V", sig := { parameters := [], returnType := none }, accessFlags := 2, code := none }
def k1c1 : Code := { maxStack := 2, maxLocals := 4, code := code, exceptionTable := #[], attributes := #[] }
def k1m1 : Method := { name := "law", desc := "(I)Z", sig := { parameters := [.int], returnType := some .boolean }, accessFlags := 9, code := some k1c1 }
/-- com/example/lemniscate/lemniscate/crypto/SuiteFindPinLaw -/
def k1 : Class := { plain "com/example/lemniscate/lemniscate/crypto/SuiteFindPinLaw" (some 0) with
  accessFlags := 49
  interfaces := #[]
  cf := some (fileOf pool1 24 #[] #[{ accessFlags := 2, nameIndex := 5, descriptorIndex := 6, attributes := #[] }, { accessFlags := 9, nameIndex := 28, descriptorIndex := 29, attributes := #[] }] 49 2 #[] #[])
  fields := #[]
  methods := #[k1m0, k1m1]
  instanceTypes := #[]
  staticTypes := #[]
  resolved := Array.replicate 33 none
  statics := none }

def pool2 : Array CpInfo := pool [(1, .class_ 2), (0, u "java/lang/constant/Constable"), (0, .class_ 4), (0, u "java/lang/Object")] 6

/-- java/lang/constant/Constable -/
def k2 : Class := { plain "java/lang/constant/Constable" (some 0) with
  accessFlags := 1537
  interfaces := #[]
  cf := some (fileOf pool2 1 #[] #[] 1537 3 #[] #[])
  fields := #[]
  methods := #[]
  instanceTypes := #[]
  staticTypes := #[]
  resolved := Array.replicate 11 none
  statics := none }

def pool3 : Array CpInfo := pool [(1, .class_ 2), (0, u "java/lang/Comparable"), (0, .class_ 4), (0, u "java/lang/Object")] 7

/-- java/lang/Comparable -/
def k3 : Class := { plain "java/lang/Comparable" (some 0) with
  accessFlags := 1537
  interfaces := #[]
  cf := some (fileOf pool3 1 #[] #[] 1537 3 #[] #[])
  fields := #[]
  methods := #[]
  instanceTypes := #[]
  staticTypes := #[]
  resolved := Array.replicate 12 none
  statics := none }

def pool4 : Array CpInfo := pool [(1, .class_ 2), (0, u "java/io/Serializable"), (0, .class_ 4), (0, u "java/lang/Object")] 2

/-- java/io/Serializable -/
def k4 : Class := { plain "java/io/Serializable" (some 0) with
  accessFlags := 1537
  interfaces := #[]
  cf := some (fileOf pool4 1 #[] #[] 1537 3 #[] #[])
  fields := #[]
  methods := #[]
  instanceTypes := #[]
  staticTypes := #[]
  resolved := Array.replicate 7 none
  statics := none }

def pool5 : Array CpInfo := pool [(2, .class_ 4), (1, u "java/lang/Enum"), (0, u "name"), (0, u "Ljava/lang/String;"), (2, u "ordinal"), (0, u "I"), (1, .class_ 14), (1, u "java/lang/Object"), (4, u "hash"), (86, .class_ 108), (1, u "java/lang/Enum$EnumDesc"), (2, .class_ 112), (0, u "java/lang/constant/Constable"), (0, .class_ 114), (0, u "java/lang/Comparable"), (0, .class_ 116), (0, u "java/io/Serializable")] 87

/-- java/lang/Enum -/
def k5 : Class := { plain "java/lang/Enum" (some 0) with
  accessFlags := 1057
  interfaces := #[2, 3, 4]
  cf := some (fileOf pool5 2 #[.nestMembers #[106]] #[] 1057 12 #[111, 113, 115] #[{ accessFlags := 18, nameIndex := 5, descriptorIndex := 6, attributes := #[] }, { accessFlags := 18, nameIndex := 9, descriptorIndex := 10, attributes := #[] }, { accessFlags := 2, nameIndex := 19, descriptorIndex := 10, attributes := #[] }])
  fields := #[{ name := "name", type := (.object "java/lang/String"), accessFlags := 18, slot := 0, constantValue := 0 }, { name := "ordinal", type := .int, accessFlags := 18, slot := 1, constantValue := 0 }, { name := "hash", type := .int, accessFlags := 2, slot := 2, constantValue := 0 }]
  methods := #[]
  instanceTypes := #[(.object "java/lang/String"), .int, .int]
  staticTypes := #[]
  resolved := Array.replicate 204 none
  statics := none }

def pool6 : Array CpInfo := pool [(1, .class_ 2), (0, u "com/example/lemniscate/lemniscate/crypto/Suite"), (2, u "E521"), (0, u "Lcom/example/lemniscate/lemniscate/crypto/Suite;"), (2, u "NUMS256"), (0, .fieldref 1 11), (0, .nameAndType 12 13), (0, u "$VALUES"), (0, u "[Lcom/example/lemniscate/lemniscate/crypto/Suite;"), (0, .methodref 15 16), (0, .class_ 13), (0, .nameAndType 17 18), (0, u "clone"), (0, u "()Ljava/lang/Object;"), (1, .class_ 22), (1, u "java/lang/Enum"), (6, .fieldref 1 30), (0, .nameAndType 31 32), (0, u "code"), (0, u "B"), (2, u "curve"), (0, u "Lcom/example/lemniscate/lemniscate/curve/EdwardsCurve;"), (17, u "FOUR"), (0, u "Ljava/math/BigInteger;"), (19, .methodref 1 76), (0, .nameAndType 77 78), (0, u "values"), (0, u "()[Lcom/example/lemniscate/lemniscate/crypto/Suite;"), (32, u "()B"), (4, u "find"), (0, u "(B)Lcom/example/lemniscate/lemniscate/crypto/Suite;")] 5

def k6c0 : Code := { maxStack := 1, maxLocals := 0, code := prog_49_method_1_code, exceptionTable := #[], attributes := #[] }
def k6m0 : Method := { name := "values", desc := "()[Lcom/example/lemniscate/lemniscate/crypto/Suite;", sig := { parameters := [], returnType := some (.array (.object "com/example/lemniscate/lemniscate/crypto/Suite")) }, accessFlags := 9, code := some k6c0 }
def k6c1 : Code := { maxStack := 1, maxLocals := 1, code := prog_49_method_4_code, exceptionTable := #[], attributes := #[] }
def k6m1 : Method := { name := "code", desc := "()B", sig := { parameters := [], returnType := some .byte }, accessFlags := 0, code := some k6c1 }
def k6c2 : Code := { maxStack := 2, maxLocals := 5, code := prog_49_method_8_code, exceptionTable := #[], attributes := #[] }
def k6m2 : Method := { name := "find", desc := "(B)Lcom/example/lemniscate/lemniscate/crypto/Suite;", sig := { parameters := [.byte], returnType := some (.object "com/example/lemniscate/lemniscate/crypto/Suite") }, accessFlags := 8, code := some k6c2 }
/-- com/example/lemniscate/lemniscate/crypto/Suite -/
def k6 : Class := { plain "com/example/lemniscate/lemniscate/crypto/Suite" (some 5) with
  accessFlags := 16433
  interfaces := #[]
  cf := some (fileOf pool6 1 #[] #[{ accessFlags := 9, nameIndex := 77, descriptorIndex := 78, attributes := #[] }, { accessFlags := 0, nameIndex := 31, descriptorIndex := 111, attributes := #[] }, { accessFlags := 8, nameIndex := 116, descriptorIndex := 117, attributes := #[] }] 16433 20 #[] #[{ accessFlags := 16409, nameIndex := 5, descriptorIndex := 6, attributes := #[] }, { accessFlags := 16409, nameIndex := 9, descriptorIndex := 6, attributes := #[] }, { accessFlags := 26, nameIndex := 54, descriptorIndex := 55, attributes := #[] }, { accessFlags := 18, nameIndex := 31, descriptorIndex := 32, attributes := #[] }, { accessFlags := 18, nameIndex := 35, descriptorIndex := 36, attributes := #[] }, { accessFlags := 4122, nameIndex := 12, descriptorIndex := 13, attributes := #[] }])
  fields := #[{ name := "E521", type := (.object "com/example/lemniscate/lemniscate/crypto/Suite"), accessFlags := 16409, slot := 0, constantValue := 0 }, { name := "NUMS256", type := (.object "com/example/lemniscate/lemniscate/crypto/Suite"), accessFlags := 16409, slot := 1, constantValue := 0 }, { name := "FOUR", type := (.object "java/math/BigInteger"), accessFlags := 26, slot := 2, constantValue := 0 }, { name := "code", type := .byte, accessFlags := 18, slot := 3, constantValue := 0 }, { name := "curve", type := (.object "com/example/lemniscate/lemniscate/curve/EdwardsCurve"), accessFlags := 18, slot := 4, constantValue := 0 }, { name := "$VALUES", type := (.array (.object "com/example/lemniscate/lemniscate/crypto/Suite")), accessFlags := 4122, slot := 3, constantValue := 0 }]
  methods := #[k6m0, k6m1, k6m2]
  instanceTypes := #[(.object "java/lang/String"), .int, .int, .byte, (.object "com/example/lemniscate/lemniscate/curve/EdwardsCurve")]
  staticTypes := #[(.object "com/example/lemniscate/lemniscate/crypto/Suite"), (.object "com/example/lemniscate/lemniscate/crypto/Suite"), (.object "java/math/BigInteger"), (.array (.object "com/example/lemniscate/lemniscate/crypto/Suite"))]
  resolved := Array.replicate 123 none
  statics := some 0 }

def pool7 : Array CpInfo := pool [(1, .class_ 2), (0, u "java/lang/Cloneable"), (0, .class_ 4), (0, u "java/lang/Object")] 2

/-- java/lang/Cloneable -/
def k7 : Class := { plain "java/lang/Cloneable" (some 0) with
  accessFlags := 1537
  interfaces := #[]
  cf := some (fileOf pool7 1 #[] #[] 1537 3 #[] #[])
  fields := #[]
  methods := #[]
  instanceTypes := #[]
  staticTypes := #[]
  resolved := Array.replicate 7 none
  statics := none }

/-- the primitive byte -/
def k8 : Class := { plain "byte" none with kind := .primitive 'B', accessFlags := 0x411 }
/-- [B -/
def k9 : Class := { plain "[B" (some 0) with kind := .array 8 .byte, interfaces := #[7, 4], accessFlags := 1041 }

/-- the primitive int -/
def k10 : Class := { plain "int" none with kind := .primitive 'I', accessFlags := 0x411 }
/-- [I -/
def k11 : Class := { plain "[I" (some 0) with kind := .array 10 .int, interfaces := #[7, 4], accessFlags := 1041 }

/-- [Lcom/example/lemniscate/lemniscate/crypto/Suite; -/
def k12 : Class := { plain "[Lcom/example/lemniscate/lemniscate/crypto/Suite;" (some 0) with kind := .array 6 (.object "com/example/lemniscate/lemniscate/crypto/Suite"), interfaces := #[7, 4], accessFlags := 1041 }

def heap : Heap := #[{ cls := 6, slots := #[.ref 2, .ref 3, .null, .ref 1], vm := .statics 6 },
  { cls := 12, slots := #[.ref 2, .ref 3], vm := .none },
  { cls := 6, slots := #[.null, .int 0, .int 0, .int 1, .null], vm := .none },
  { cls := 6, slots := #[.null, .int 0, .int 0, .int 2, .null], vm := .none }]
def classes : Array Class := #[k0, k1, k2, k3, k4, k5, k6, k7, k8, k9, k10, k11, k12]
def interned : List (Array UInt16 × Addr) := []
def slotsUsed : Nat := 16
def theMethod : MethodId := ⟨1, 1⟩
def args0 : Array Value := #[.int 5]
def aboutOver (below : List Frame) : State where
  vm := { classes := classes, interned := interned.toArray }
  heap := heap
  slotsUsed := slotsUsed
  threads := #[{ frames := .invoking theMethod args0 :: below }]
def below0 : List Frame := [.native { method := ⟨0, 0⟩, args := #[] }]
def about1 : State := aboutOver below0
def p0 : Program := .bare "" "" ""
def e0 : Env := launch0.env 0 0 0
theorem w_frames : about1.frames = Frame.invoking theMethod args0 :: below0 := rfl
set_option maxRecDepth 65536 in
theorem w_args : argsFit about1.vm theMethod args0 = true := by decide +kernel
set_option maxRecDepth 65536 in
theorem w_heap : heapFits about1 = true := by decide +kernel
set_option maxRecDepth 65536 in
theorem w_runnable : about1.curStatus? = some .runnable := by decide +kernel
set_option maxRecDepth 65536 in
theorem w_alone : about1.alone = true := by decide +kernel
set_option maxRecDepth 65536 in
theorem w_named : about1.methodNamed? x = some theMethod := by decide +kernel
set_option maxRecDepth 65536 in
theorem w_hears : about1.hears theMethod below0 = true := by decide +kernel
set_option maxRecDepth 65536 in
theorem w_ripe : about1.ripe theMethod args0 below0 = true := by decide +kernel
theorem w_running : about1.status = .running := rfl
set_option maxRecDepth 65536 in
theorem w_room : about1.hasRoom e0.platform room_1 = true :=
  launch0.hasRoom_least _ room_1 (by decide +kernel) (by decide +kernel) (by decide +kernel) (by decide +kernel) (by decide +kernel) (by decide +kernel)
theorem allAtoms_all (ts : List Jvm.Cond) (a : Array Jvm.Value) (st : Jvm.State) : (allAtoms ts).before a st = ts.all (fun c => c.before a st) := by
  induction ts with
  | nil => rfl
  | cons c t ih =>
    show (Jvm.Cond.and c (allAtoms t)).before a st = _
    rw [Jvm.Cond.before_and, ih, List.all_cons]
def words1 : List Jvm.Cond := Jvm.Cond.code x code maxLocals ret :: tables_1
/-- a 'code' word, met by the world's own term for the bytes: nothing is compared byte by byte -/
theorem code_word {y : MethodName} {bytes : ByteArray} {mx : Nat} {rt : Option FieldType} {a : Array Value} {s : State} {m : MethodId} {meth : Method} {c : Code} (h1 : s.methodNamed? y = some m) (h2 : s.vm.method? m = some meth) (h3 : meth.code = some c) (h4 : c.code = bytes)
    (h5 : (c.maxLocals == mx && c.exceptionTable.isEmpty && decide (c.maxStack ≤ mostOperands) && decide (meth.sig.returnType = rt) && !meth.locks && decide (parseMethodDescriptor y.desc = some meth.sig)) = true) : (Jvm.Cond.code y bytes mx rt).before a s = true := by
  simp only [Bool.and_eq_true, beq_iff_eq, Bool.not_eq_true', decide_eq_true_eq] at h5
  obtain ⟨⟨⟨⟨⟨g1, g2⟩, g3⟩, g4⟩, g5⟩, g6⟩ := h5
  simp [Cond.before, Cond.holds, Cond.value, h1, h2, h3, h4, g1, g2, g3, g4, g5, g6]
def isCode : Jvm.Cond → Bool
  | .code _ _ _ _ => true
  | _ => false
theorem all_split {L : List Jvm.Cond} {P : Jvm.Cond → Bool} (h1 : L.all (fun c => isCode c || P c) = true) (h2 : ∀ c ∈ L.filter isCode, P c = true) : L.all P = true := by
  refine List.all_eq_true.mpr fun c hc => ?_
  have h := List.all_eq_true.mp h1 c hc
  rcases Bool.eq_false_or_eq_true (isCode c) with hi | hi
  · exact h2 c (List.mem_filter.mpr ⟨hc, hi⟩)
  · simpa [hi] using h
set_option maxRecDepth 65536 in
theorem w_c0 : (Jvm.Cond.code x code maxLocals ret).before args0 about1 = true := code_word (m := ⟨1, 1⟩) (meth := k1m1) (c := k1c1) (by decide +kernel) rfl rfl rfl (by decide +kernel)
set_option maxRecDepth 65536 in
theorem w_c1 : (Jvm.Cond.code ({ cls := "com/example/lemniscate/lemniscate/crypto/Suite", name := "find", desc := "(B)Lcom/example/lemniscate/lemniscate/crypto/Suite;" } : Jvm.MethodName) prog_49_method_8_code (5 : Nat) (Option.some (Jvm.ClassFile.FieldType.object "com/example/lemniscate/lemniscate/crypto/Suite"))).before args0 about1 = true := code_word (m := ⟨6, 2⟩) (meth := k6m2) (c := k6c2) (by decide +kernel) rfl rfl rfl (by decide +kernel)
set_option maxRecDepth 65536 in
theorem w_c2 : (Jvm.Cond.code ({ cls := "com/example/lemniscate/lemniscate/crypto/Suite", name := "values", desc := "()[Lcom/example/lemniscate/lemniscate/crypto/Suite;" } : Jvm.MethodName) prog_49_method_1_code (0 : Nat) (Option.some (Jvm.ClassFile.FieldType.array (Jvm.ClassFile.FieldType.object "com/example/lemniscate/lemniscate/crypto/Suite")))).before args0 about1 = true := code_word (m := ⟨6, 0⟩) (meth := k6m0) (c := k6c0) (by decide +kernel) rfl rfl rfl (by decide +kernel)
set_option maxRecDepth 65536 in
theorem w_c3 : (Jvm.Cond.code ({ cls := "com/example/lemniscate/lemniscate/crypto/Suite", name := "code", desc := "()B" } : Jvm.MethodName) prog_49_method_4_code (1 : Nat) (Option.some Jvm.ClassFile.FieldType.byte)).before args0 about1 = true := code_word (m := ⟨6, 1⟩) (meth := k6m1) (c := k6c1) (by decide +kernel) rfl rfl rfl (by decide +kernel)
def codes1 : List Jvm.Cond := [Jvm.Cond.code x code maxLocals ret, Jvm.Cond.code ({ cls := "com/example/lemniscate/lemniscate/crypto/Suite", name := "find", desc := "(B)Lcom/example/lemniscate/lemniscate/crypto/Suite;" } : Jvm.MethodName) prog_49_method_8_code (5 : Nat) (Option.some (Jvm.ClassFile.FieldType.object "com/example/lemniscate/lemniscate/crypto/Suite")), Jvm.Cond.code ({ cls := "com/example/lemniscate/lemniscate/crypto/Suite", name := "values", desc := "()[Lcom/example/lemniscate/lemniscate/crypto/Suite;" } : Jvm.MethodName) prog_49_method_1_code (0 : Nat) (Option.some (Jvm.ClassFile.FieldType.array (Jvm.ClassFile.FieldType.object "com/example/lemniscate/lemniscate/crypto/Suite"))), Jvm.Cond.code ({ cls := "com/example/lemniscate/lemniscate/crypto/Suite", name := "code", desc := "()B" } : Jvm.MethodName) prog_49_method_4_code (1 : Nat) (Option.some Jvm.ClassFile.FieldType.byte)]
set_option maxRecDepth 65536 in
theorem codes_eq : words1.filter isCode = codes1 := rfl
theorem w_codes : ∀ c ∈ words1.filter isCode, c.before args0 about1 = true := by
  rw [codes_eq]
  intro c hc
  simp only [codes1, List.mem_cons, List.not_mem_nil, or_false] at hc
  rcases hc with rfl | rfl | rfl | rfl
  · exact w_c0
  · exact w_c1
  · exact w_c2
  · exact w_c3
set_option maxRecDepth 65536 in
theorem w_t1 : (words1.take 24).all (fun c => isCode c || c.before args0 about1) = true := by decide +kernel
set_option maxRecDepth 65536 in
theorem w_t2 : (words1.drop 24).all (fun c => isCode c || c.before args0 about1) = true := by decide +kernel
theorem w_tables : (allAtoms (Jvm.Cond.code x code maxLocals ret :: tables_1)).before args0 about1 = true := by
  rw [allAtoms_all]
  show words1.all (fun c => c.before args0 about1) = true
  refine all_split ?_ w_codes
  rw [← List.take_append_drop 24 words1, List.all_append, w_t1, w_t2]
  rfl
set_option maxRecDepth 65536 in
theorem w_case : (Jvm.Cond.and given_1 narrow_1).before args0 about1 = true := by decide +kernel
theorem w_applies : (headSpec (Jvm.Cond.code x code maxLocals ret :: tables_1) room_1).applies x e0.platform about1 = true :=
  (Spec.applies_iff w_frames).mpr ⟨w_running, w_runnable, w_alone, w_named, w_hears, w_ripe, w_room, w_tables⟩
theorem atStart : AtStart classFile x code maxLocals ret World_1 tables_1 room_1 Calls_1 rest_1 Pre_1 launch0 p0 e0 about1 theMethod args0 below0 :=
  ⟨lists_1, trivial, launch0.admits_env _ _ _, launch0.least_env, fairChoices_fair.cas, fairChoices_fair.clock, w_frames, w_args, w_heap, w_applies, trivial, trivial, w_case⟩
end start1
theorem witness_1 : WitnessClaimed_1 := ⟨start1.p0, start1.e0, start1.about1, start1.theMethod, start1.args0, start1.below0, start1.atStart⟩
end Jvm.Pilot.@@N@@

import JvmDerived
import JvmDerived.Pilot.@@N@@Statement
import JvmDerived.Pilot.@@N@@Code
set_option linter.unusedVariables false
set_option linter.unusedSimpArgs false
namespace Jvm.Pilot.@@N@@
open Jvm Jvm.ClassFile Sem Op Lib Jvm.Free Jvm.Stand Jvm.LawKit Jvm.RoadKit Bundle Jvm.Pilot.@@N@@.Jvm.D
/-! THE LAYER own_: 'Ends': from this state the body ends as Q says; one lemma an instruction, over frames in the form mkF -/
section Own
variable {p : Program} {l : Launch} {e : Env} {R : Room} {s : State} {m : MethodId} {args : Array Value} {below : List Frame} {meth : Method} {c : Code} {T : State} {locs : List Loc} {cells slots : Nat}
variable {Q : Option Value → Heap → List Loc → Prop} {C S : Nat} {bc : ByteArray} {pc pc' : Nat} {Ls Ls' : Array Slot} {st : List Value} {Fz : Outcome → State → Prop}
def Ends (tb : Tables) (e : Env) (below : List Frame) (Fz : Outcome → State → Prop) (t : State) : Prop :=
  ∃ s₂ o, Steps tb e below t s₂ ∧ s₂.status = .running ∧ Ended s₂ below o ∧ Fz o s₂
def OwnFin (s : State) (Q : Option Value → Heap → List Loc → Prop) (C S : Nat) (o : Outcome) (s₂ : State) : Prop := ∃ v L, o = .returned v ∧ Q v s₂.heap L ∧ FrameEnd s o s₂ L C S
theorem Ends.of {tb : Tables} {t t' : State} (st : ∀ target, Steps tb e below t' target → Steps tb e below t target) (k : Ends tb e below Fz t') : Ends tb e below Fz t := by
  obtain ⟨s₂, o, h1, h2⟩ := k
  exact ⟨s₂, o, st _ h1, h2⟩
theorem Ends.tr {tb : Tables} {t t' : State} (st : Steps tb e below t t') (k : Ends tb e below Fz t') : Ends tb e below Fz t := Ends.of (fun _ q => st.trans q) k
theorem own_iloadN (X : Stand p l e R s m args below meth c T locs cells slots) (hx : p.tables.exec = Jvm.exec) (hby : c.code = bc) {k : Fin 4} {v : Int32} (hd : decode bc pc = .ok (.iload_n k, 1)) (hp : pc + 1 = pc') (hl : Ls[k.val]? = some (.val (.int v)))
    (kt : Ends p.tables e below Fz (T.setTop (mkF m pc' Ls (.int v :: st)))) : Ends p.tables e below Fz (T.setTop (mkF m pc Ls st)) := by
  subst hp; exact Ends.of (fun _ q => XS.iloadN X.here hx rfl (hb hby hd) hl q) kt
theorem own_aloadN (X : Stand p l e R s m args below meth c T locs cells slots) (hx : p.tables.exec = Jvm.exec) (hby : c.code = bc) {k : Fin 4} {v : Value} (hd : decode bc pc = .ok (.aload_n k, 1)) (hp : pc + 1 = pc') (hl : Ls[k.val]? = some (.val v)) (hv : v.isRef = true)
    (kt : Ends p.tables e below Fz (T.setTop (mkF m pc' Ls (v :: st)))) : Ends p.tables e below Fz (T.setTop (mkF m pc Ls st)) := by
  subst hp; exact Ends.of (fun _ q => XS.aloadN X.here hx rfl (hb hby hd) hl hv q) kt
theorem own_aload (X : Stand p l e R s m args below meth c T locs cells slots) (hx : p.tables.exec = Jvm.exec) (hby : c.code = bc) {k : Nat} {v : Value} (hd : decode bc pc = .ok (.aload k, 2)) (hp : pc + 2 = pc') (hl : Ls[k]? = some (.val v)) (hv : v.isRef = true)
    (kt : Ends p.tables e below Fz (T.setTop (mkF m pc' Ls (v :: st)))) : Ends p.tables e below Fz (T.setTop (mkF m pc Ls st)) := by
  subst hp; exact Ends.of (fun _ q => XS.aload X.here hx rfl (hb hby hd) hl hv q) kt
theorem own_istoreN (X : Stand p l e R s m args below meth c T locs cells slots) (hx : p.tables.exec = Jvm.exec) (hby : c.code = bc) {k : Fin 4} {v : Int32} (hd : decode bc pc = .ok (.istore_n k, 1)) (hp : pc + 1 = pc') (Ls' : Array Slot) (hl : storeLocals Ls k.val (.int v) = some Ls')
    (kt : Ends p.tables e below Fz (T.setTop (mkF m pc' Ls' st))) : Ends p.tables e below Fz (T.setTop (mkF m pc Ls (.int v :: st))) := by
  subst hp; exact Ends.of (fun _ q => XS.istoreN X.here hx rfl (hb hby hd) rfl hl q) kt
theorem own_astoreN (X : Stand p l e R s m args below meth c T locs cells slots) (hx : p.tables.exec = Jvm.exec) (hby : c.code = bc) {k : Fin 4} {v : Value} (hd : decode bc pc = .ok (.astore_n k, 1)) (hp : pc + 1 = pc') (Ls' : Array Slot) (hv : v.isRef = true) (hl : storeLocals Ls k.val v = some Ls')
    (kt : Ends p.tables e below Fz (T.setTop (mkF m pc' Ls' st))) : Ends p.tables e below Fz (T.setTop (mkF m pc Ls (v :: st))) := by
  subst hp; exact Ends.of (fun _ q => XS.astoreN X.here hx rfl (hb hby hd) rfl hv hl q) kt
theorem own_astore (X : Stand p l e R s m args below meth c T locs cells slots) (hx : p.tables.exec = Jvm.exec) (hby : c.code = bc) {k : Nat} {v : Value} (hd : decode bc pc = .ok (.astore k, 2)) (hp : pc + 2 = pc') (Ls' : Array Slot) (hv : v.isRef = true) (hl : storeLocals Ls k v = some Ls')
    (kt : Ends p.tables e below Fz (T.setTop (mkF m pc' Ls' st))) : Ends p.tables e below Fz (T.setTop (mkF m pc Ls (v :: st))) := by
  subst hp; exact Ends.of (fun _ q => XS.astore X.here hx rfl (hb hby hd) rfl hv hl q) kt
theorem own_iconst (X : Stand p l e R s m args below meth c T locs cells slots) (hx : p.tables.exec = Jvm.exec) (hby : c.code = bc) {i : Int} (hd : decode bc pc = .ok (.iconst i, 1)) (hp : pc + 1 = pc') (v : Int32) (hv : Int32.ofInt i = v)
    (kt : Ends p.tables e below Fz (T.setTop (mkF m pc' Ls (.int v :: st)))) : Ends p.tables e below Fz (T.setTop (mkF m pc Ls st)) := by
  subst hp; exact Ends.of (fun _ q => by subst hv; exact XS.iconst X.here hx rfl (hb hby hd) q) kt
theorem own_bipush (X : Stand p l e R s m args below meth c T locs cells slots) (hx : p.tables.exec = Jvm.exec) (hby : c.code = bc) {i : Int} (hd : decode bc pc = .ok (.bipush i, 2)) (hp : pc + 2 = pc') (v : Int32) (hv : (Int8.ofInt i).toInt32 = v)
    (kt : Ends p.tables e below Fz (T.setTop (mkF m pc' Ls (.int v :: st)))) : Ends p.tables e below Fz (T.setTop (mkF m pc Ls st)) := by
  subst hp; exact Ends.of (fun _ q => by subst hv; exact XS.bipush X.here hx rfl (hb hby hd) q) kt
theorem own_aconstNull (X : Stand p l e R s m args below meth c T locs cells slots) (hx : p.tables.exec = Jvm.exec) (hby : c.code = bc)  (hd : decode bc pc = .ok (.aconst_null, 1)) (hp : pc + 1 = pc')
    (kt : Ends p.tables e below Fz (T.setTop (mkF m pc' Ls (.null :: st)))) : Ends p.tables e below Fz (T.setTop (mkF m pc Ls st)) := by
  subst hp; exact Ends.of (fun _ q => XS.aconstNull X.here hx rfl (hb hby hd) q) kt
theorem own_i2b (X : Stand p l e R s m args below meth c T locs cells slots) (hx : p.tables.exec = Jvm.exec) (hby : c.code = bc) {x : Int32} (hd : decode bc pc = .ok (.i2b, 1)) (hp : pc + 1 = pc')
    (kt : Ends p.tables e below Fz (T.setTop (mkF m pc' Ls (.int x.toInt8.toInt32 :: st)))) : Ends p.tables e below Fz (T.setTop (mkF m pc Ls (.int x :: st))) := by
  subst hp; exact Ends.of (fun _ q => Jvm.Free.XT.i2b X.here hx rfl (hb hby hd) rfl q) kt
theorem own_iinc (X : Stand p l e R s m args below meth c T locs cells slots) (hx : p.tables.exec = Jvm.exec) (hby : c.code = bc) {k : Nat} {i : Int} {x : Int32} (hd : decode bc pc = .ok (.iinc k i, 3)) (hp : pc + 3 = pc') (v : Int32) (hv : Int32.ofInt i = v) (Ls' : Array Slot) (hl : Ls[k]? = some (.val (.int x))) (hl' : storeLocals Ls k (.int (x + v)) = some Ls')
    (kt : Ends p.tables e below Fz (T.setTop (mkF m pc' Ls' st))) : Ends p.tables e below Fz (T.setTop (mkF m pc Ls st)) := by
  subst hp; exact Ends.of (fun _ q => by subst hv; exact XS.iinc X.here hx rfl (hb hby hd) hl hl' q) kt
theorem own_goto (X : Stand p l e R s m args below meth c T locs cells slots) (hx : p.tables.exec = Jvm.exec) (hby : c.code = bc) {o : Int} (hd : decode bc pc = .ok (.goto o, 3)) (hp : (pc : Int) + o = (pc' : Int)) (kt : Ends p.tables e below Fz (T.setTop (mkF m pc' Ls st))) : Ends p.tables e below Fz (T.setTop (mkF m pc Ls st)) :=
  Ends.of (fun _ q => XS.goto X.here hx rfl (pc0 := pc) (pc' := pc') rfl (hb hby hd) (by rw [hp]; exact Int.natCast_nonneg _) (by rw [hp]; rfl) q) kt
theorem own_icmp_ne (X : Stand p l e R s m args below meth c T locs cells slots) (hx : p.tables.exec = Jvm.exec) (hby : c.code = bc) {x y : Int32} {o : Int} {pcY pcN : Nat} (hd : decode bc pc = .ok (.if_icmp .ne o, 3)) (hpY : (pc : Int) + o = (pcY : Int)) (hpN : pc + 3 = pcN) (kY : ¬ x = y → Ends p.tables e below Fz (T.setTop (mkF m pcY Ls st))) (kN : x = y → Ends p.tables e below Fz (T.setTop (mkF m pcN Ls st))) : Ends p.tables e below Fz (T.setTop (mkF m pc Ls (.int y :: .int x :: st))) := by
  subst hpN; by_cases h : x = y
  · exact Ends.of (fun _ q => XS.icmpNo X.here hx rfl (hb hby hd) rfl (Jvm.Free.XT.ii_ne_f h) q) (kN h)
  · exact Ends.of (fun _ q => XS.icmpYes X.here hx rfl (pc0 := pc) (pc' := pcY) rfl (hb hby hd) rfl (Jvm.Free.XT.ii_ne_t h) (by rw [hpY]; exact Int.natCast_nonneg _) (by rw [hpY]; rfl) q) (kY h)
theorem own_icmp_ge (X : Stand p l e R s m args below meth c T locs cells slots) (hx : p.tables.exec = Jvm.exec) (hby : c.code = bc) {x y : Int32} {o : Int} {pcY pcN : Nat} (hd : decode bc pc = .ok (.if_icmp .ge o, 3)) (hpY : (pc : Int) + o = (pcY : Int)) (hpN : pc + 3 = pcN) (kY : y.toInt ≤ x.toInt → Ends p.tables e below Fz (T.setTop (mkF m pcY Ls st))) (kN : x.toInt < y.toInt → Ends p.tables e below Fz (T.setTop (mkF m pcN Ls st))) : Ends p.tables e below Fz (T.setTop (mkF m pc Ls (.int y :: .int x :: st))) := by
  subst hpN; by_cases h : x < y
  · exact Ends.of (fun _ q => XS.icmpNo X.here hx rfl (hb hby hd) rfl (Jvm.Free.XT.ii_ge_f h) q) (kN (Int32.lt_iff_toInt_lt.mp h))
  · exact Ends.of (fun _ q => XS.icmpYes X.here hx rfl (pc0 := pc) (pc' := pcY) rfl (hb hby hd) rfl (Jvm.Free.XT.ii_ge_t h) (by rw [hpY]; exact Int.natCast_nonneg _) (by rw [hpY]; rfl) q) (kY (Int.not_lt.mp fun q => h (Int32.lt_iff_toInt_lt.mpr q)))
theorem own_acmp_ne (X : Stand p l e R s m args below meth c T locs cells slots) (hx : p.tables.exec = Jvm.exec) (hby : c.code = bc) {x y : Value} {o : Int} {pcY pcN : Nat} (hd : decode bc pc = .ok (.if_acmp .ne o, 3)) (hpY : (pc : Int) + o = (pcY : Int)) (hpN : pc + 3 = pcN) (h1 : x.isRef = true) (h2 : y.isRef = true) (kY : ¬ x = y → Ends p.tables e below Fz (T.setTop (mkF m pcY Ls st))) (kN : x = y → Ends p.tables e below Fz (T.setTop (mkF m pcN Ls st))) : Ends p.tables e below Fz (T.setTop (mkF m pc Ls (y :: x :: st))) := by
  subst hpN; by_cases h : x = y
  · exact Ends.of (fun _ q => Jvm.RoadKit.acmp (g := mkF m pc Ls (y :: x :: st)) X hx rfl h1 h2 (pc0 := pc) (same := true) rfl (hb hby hd) rfl (decide_eq_true h) (by rw [hpY]; exact Int.natCast_nonneg _) rfl (by simpa [acV] using q)) (kN h)
  · exact Ends.of (fun _ q => Jvm.RoadKit.acmp (g := mkF m pc Ls (y :: x :: st)) X hx rfl h1 h2 (pc0 := pc) (same := false) rfl (hb hby hd) rfl (decide_eq_false h) (by rw [hpY]; exact Int.natCast_nonneg _) rfl (by simpa [acV, hpY] using q)) (kY h)
theorem own_ret (X : Stand p l e R s m args below meth c T locs cells slots) (hx : p.tables.exec = Jvm.exec) (hby : c.code = bc) {v : Value} {t : FieldType} {i : Instr} (hret : meth.sig.returnType = some t) (hk : meth.locks = false) (hd : decode bc pc = .ok (i, 1)) (v' : Value) (hn : narrow t v = v')
    (hi : (i = .ireturn ∧ (t = .int ∨ t = .boolean ∨ t = .byte ∨ t = .char ∨ t = .short) ∧ ∃ z, v = .int z) ∨ (i = .lreturn ∧ t = .long ∧ ∃ z, v = .long z) ∨ (i = .areturn ∧ t.isReference = true ∧ v.isRef = true))
    (hC : cells ≤ C) (hS : slots ≤ S) (q : Q (some v') T.heap locs) : Ends p.tables e below (OwnFin s Q C S) (T.setTop (mkF m pc Ls (v :: st))) := by
  obtain ⟨fs, hr, hrun, hended, hW, hsame⟩ := X.leave (v := some v') (fun h => by rw [hret] at h; cases h) hk
  refine ⟨_, _, ?_, hrun, hended, _, _, rfl, q, ⟨_, rfl⟩, hW, hsame.mono hC hS⟩
  have hm' : T.vm.method? m = some meth := X.method'
  show Steps p.tables e below (T.setTop { method := m, pc := pc, locals := Ls, stack := v :: st, locked := none }) _
  have hd' := hb hby hd
  rcases hi with ⟨rfl, ht, z, rfl⟩ | ⟨rfl, rfl, z, rfl⟩ | ⟨rfl, ht, hv⟩
  · rcases ht with rfl | rfl | rfl | rfl | rfl <;> (jvm_step X.here [X.here.top, hx, hd', hm', hret, hn]; first | (intro acts; rw [hr _ acts rfl rfl rfl]) | rw [hr _ _ rfl rfl rfl]) <;> exact Steps.refl _
  · have hn2 : Value.long z = v' := hn
    subst hn2
    jvm_step X.here [X.here.top, hx, hd', hm', hret, hn]
    first | (intro acts; rw [hr _ acts rfl rfl rfl]) | rw [hr _ _ rfl rfl rfl]
    exact Steps.refl _
  · have hn2 : v = v' := by rw [← hn]; rcases ref_cases hv with rfl | ⟨z, rfl⟩ <;> cases t <;> rfl
    subst hn2
    jvm_step X.here [X.here.top, hx, hd', hm', hret, hn, ht, hv]
    first | (intro acts; rw [hr _ acts rfl rfl rfl]) | rw [hr _ _ rfl rfl rfl]
    exact Steps.refl _
end Own
section OwnH
variable {p : Program} {l : Launch} {e : Env} {R : Room} {s : State} {m : MethodId} {args : Array Value} {below : List Frame} {meth : Method} {c : Code} {T : State} {locs : List Loc} {cells slots : Nat}
variable {Fz : Outcome → State → Prop} {bc : ByteArray} {pc pc' : Nat} {Ls Ls' : Array Slot} {st : List Value}
variable {Z : State} {a0 : Array Value} {h h0 : Heap} {n0 : Nat}
abbrev OwnMet (l : Launch) (Z : State) (y : MethodName) (bytes : ByteArray) (maxL : Nat) (rt : Option FieldType) (ws : List Jvm.Cond) (rm : Room) (as' : Array Value) (h0 : Heap) (Qc : Option Value → Heap → List Loc → Prop) : Prop :=
  MetFree l y (head1 (Jvm.Cond.code y bytes maxL rt :: ws) rm) (fun a U => a = as' ∧ Z.Warmed39 U.vm ∧ U.heap = h0) (fun _ _ _ _ _ => True) (fun _ U o U' => ∃ v L, o = .returned v ∧ Qc v U'.heap L ∧ FrameEnd U o U' L rm.cells rm.slots)
theorem own_body {y : MethodName} {bytes : ByteArray} {maxL : Nat} {rt : Option FieldType} {ws : List Jvm.Cond} {rm : Room} {as' : Array Value} {Qc : Option Value → Heap → List Loc → Prop} {Ls0 : Array Slot} (hpl : plainFor y = true) (hef : ∀ m : MethodId, entryFrame m as' maxL = mkF m 0 Ls0 [])
    (body : ∀ (p : Program) (e : Env) (s : State) (m : MethodId) (below : List Frame) (meth : Method) (c : Code) (s₁ : State), Stand p l e rm s m as' below meth c s₁ [] 0 0 → p.tables.exec = Jvm.exec → c.code = bytes → c.maxLocals = maxL → s.vm.findClass y.cls = some m.cls → meth.name = y.name → meth.sig.returnType = rt → meth.locks = false → Z.Warmed39 s.vm → s₁.heap = h0 → Ends p.tables e below (OwnFin s Qc rm.cells rm.slots) (s₁.setTop (mkF m 0 Ls0 []))) :
    OwnMet l Z y bytes maxL rt ws rm as' h0 Qc := by
  refine MetFree.of_bodySF hpl hisR ?_
  intro p e s m args below meth c s₁ Bd hml0 hP hK
  obtain ⟨rfl, hZ, hh⟩ := hP
  have e0 : s₁.heap = h0 := by rw [← hh, Bd.state]; rfl
  rw [hef]
  exact body p e s m below meth c s₁ (Stand.of_body Bd) Bd.exec Bd.bytes hml0 (findClass_of_methodNamed Bd.named) (name_of_methodNamed Bd.named Bd.method).1 Bd.returns Bd.notSynchronized hZ e0
theorem own_static (X : Stand p l e R s m args below meth c T locs cells slots) (hx : p.tables.exec = Jvm.exec) (hby : c.code = bc) (hZ : Z.Warmed39 s.vm) {own : String} {index : Nat} {y : MethodName} {bytes : ByteArray} {maxL : Nat} {rt r : Option FieldType} {ps : List FieldType} {rm : Room} {argsL rest : List Value} {Qc : Option Value → Heap → List Loc → Prop} {W : Nat}
    (hown : s.vm.findClass own = some m.cls) (w1 : (Jvm.Cond.methodLink own index y).before a0 Z = true) (w2 : (Jvm.Cond.static y).before a0 Z = true) (w3 : (Jvm.Cond.initialized y.cls).before a0 Z = true) (w4 : (Jvm.Cond.code y bytes maxL rt).before a0 Z = true) (hy : y.cls ≠ "java/lang/invoke/MethodHandle" ∧ y.cls ≠ "java/lang/invoke/VarHandle")
    (hM : OwnMet l Z y bytes maxL rt [] rm argsL.toArray h Qc) (eT : T.heap = h) (hml : Ls.size = c.maxLocals) (hlen : parseMethodDescriptor y.desc = some ⟨ps, r⟩) (hl : argsL.length = ps.length) (hf : rm.frames + 1 ≤ R.frames) (hW : (rest.map fun v => v.category).sum ≤ W) (hlo : W + (maxL + 11) + rm.locals ≤ R.locals) (hc : cells + rm.cells ≤ R.cells) (hs : slots + rm.slots ≤ R.slots)
    (hd : decode bc pc = .ok (.invokestatic index, 3)) (hp : pc + 3 = pc') (hst : st = argsL.reverse ++ rest)
    (kt : ∀ v T' L, Stand p l e R s m args below meth c T' (locs ++ L) (cells + rm.cells) (slots + rm.slots) → Qc v T'.heap L → Ends p.tables e below Fz (T'.setTop (mkF m pc' Ls (v.toList ++ rest)))) : Ends p.tables e below Fz (T.setTop (mkF m pc Ls st)) := by
  subst hp hst
  obtain ⟨v, vm₁, ⟨T', L', k', n'⟩, -, X', ⟨Lc, hQ, l', y', z'⟩, st⟩ := Jvm.LawKit.callS X hx (y := y) hown (mvT hZ w1) (mvT hZ w2) (mvT hZ w3) (mvT hZ w4) hy (backOf (W := W) hM hZ w4 w3 hf hlo) (g := mkF m pc Ls (argsL.reverse ++ rest)) rfl hml (argsL := argsL) (rest := rest) (lenOf hlen hl) rfl (by show 2 * 0 + _ ≤ _; omega) (hb hby hd) (fun _ _ => ⟨rfl, eT, hc, hs⟩)
  dsimp only [Pt.U, Pt.locs, Pt.cells, Pt.slots] at X' l' y' z' st hQ
  subst l' y' z'
  exact Ends.of st (kt v T' Lc X' hQ)
theorem own_getfield (X : Stand p l e R s m args below meth c T locs cells slots) (hx : p.tables.exec = Jvm.exec) (hby : c.code = bc) (hZ : Z.Warmed39 s.vm) {own R0 O n d host : String} {index : Nat} {a : Addr} {v : Value}
    (hown : s.vm.findClass own = some m.cls) (w : (Jvm.Cond.fieldLink own index R0 n d).before a0 Z = true ∨ (Jvm.Cond.fieldLinkNest own index R0 n d host).before a0 Z = true) (via : Via Z R0 O n d) (eT : T.heap = h) (F : Fld Z h a O n d v)
    (hd : decode bc pc = .ok (.getfield index, 3)) (hp : pc + 3 = pc')
    (kt : ∀ T', Stand p l e R s m args below meth c T' locs cells slots → T'.heap = h → Ends p.tables e below Fz (T'.setTop (mkF m pc' Ls (v :: st)))) : Ends p.tables e below Fz (T.setTop (mkF m pc Ls (.ref a :: st))) := by
  subst hp
  obtain ⟨T', X', e', st⟩ := getF X hx hZ hown w via eT F (g := mkF m pc Ls (.ref a :: st)) rfl rfl (hb hby hd)
  exact Ends.of st (kt T' X' e')
theorem own_getstatic (X : Stand p l e R s m args below meth c T locs cells slots) (hx : p.tables.exec = Jvm.exec) (hby : c.code = bc) (hZ : Z.Warmed39 s.vm) {own R0 O n d host : String} {index : Nat} {v : Value}
    (hown : s.vm.findClass own = some m.cls) (w : (Jvm.Cond.fieldLink own index R0 n d).before a0 Z = true ∨ (Jvm.Cond.fieldLinkNest own index R0 n d host).before a0 Z = true) (via : Via Z R0 O n d) (eT : T.heap = h) (F : Sta Z h O n d v)
    (hd : decode bc pc = .ok (.getstatic index, 3)) (hp : pc + 3 = pc')
    (kt : ∀ T', Stand p l e R s m args below meth c T' locs cells slots → T'.heap = h → Ends p.tables e below Fz (T'.setTop (mkF m pc' Ls (v :: st)))) : Ends p.tables e below Fz (T.setTop (mkF m pc Ls st)) := by
  subst hp
  obtain ⟨T', X', e', st⟩ := getS2 X hx hZ hown w via eT F (g := mkF m pc Ls st) rfl (hb hby hd)
  exact Ends.of st (kt T' X' e')
theorem own_arraylength (X : Stand p l e R s m args below meth c T locs cells slots) (hx : p.tables.exec = Jvm.exec) (hby : c.code = bc) (hZ : Z.Warmed39 s.vm) {ty : FieldType} {a : Addr} {k : ClassId} {n : Int32} {vs : List Value} {dv : Value}
    (eT : T.heap = h) (V : Arv Z h a k ty n vs dv) (hd : decode bc pc = .ok (.arraylength, 1)) (hp : pc + 1 = pc')
    (kt : Ends p.tables e below Fz (T.setTop (mkF m pc' Ls (.int n :: st)))) : Ends p.tables e below Fz (T.setTop (mkF m pc Ls (.ref a :: st))) := by
  subst hp
  obtain ⟨cl, A, -, Sz, Nn, -, -⟩ := V
  exact Ends.of (fun _ q => X.arraylength hx (by rw [eT]; exact A.1) (State.isArrayOf_alike hZ.alike A.2.1) (g := mkF m pc Ls (.ref a :: st)) rfl rfl (hb hby hd) _ (by rw [len_of Sz Nn]; exact q)) kt
theorem own_aaload (X : Stand p l e R s m args below meth c T locs cells slots) (hx : p.tables.exec = Jvm.exec) (hby : c.code = bc) (hZ : Z.Warmed39 s.vm) {ty : FieldType} {a : Addr} {k : ClassId} {n j : Int32} {vs : List Value} {dv : Value} (v : Value)
    (hr : ty.isReference = true) (eT : T.heap = h) (V : Arv Z h a k ty n vs dv) (hj : ¬ j < 0 ∧ j < n) (hv : vs.getD j.toNatClampNeg dv = v) (hd : decode bc pc = .ok (.aaload, 1)) (hp : pc + 1 = pc')
    (kt : Ends p.tables e below Fz (T.setTop (mkF m pc' Ls (v :: st)))) : Ends p.tables e below Fz (T.setTop (mkF m pc Ls (.int j :: .ref a :: st))) := by
  subst hp
  obtain ⟨cl, A, -, Sz, Nn, H, -⟩ := V
  exact Ends.of (fun _ q => X.aaload hx (j := j) (v := v) (by rw [eT]; exact A.1) (State.isArrayOf_alike hZ.alike A.2.1) hr A.2.2 (inb_of Sz hj) (H.at (inb_of Sz hj) hv) (g := mkF m pc Ls (.int j :: .ref a :: st)) rfl rfl (hb hby hd) _ q) kt
theorem own_checkcast (X : Stand p l e R s m args below meth c T locs cells slots) (hx : p.tables.exec = Jvm.exec) (hby : c.code = bc) (hZ : Z.Warmed39 s.vm) {own K : String} {index : Nat} {a : Addr}
    (hown : s.vm.findClass own = some m.cls) (w : (Jvm.Cond.classLink own index K).before a0 Z = true) (eT : T.heap = h) (F : Ins Z h a K true) (hd : decode bc pc = .ok (.checkcast index, 3)) (hp : pc + 3 = pc')
    (kt : ∀ T', Stand p l e R s m args below meth c T' locs cells slots → T'.heap = h → Ends p.tables e below Fz (T'.setTop (mkF m pc' Ls (.ref a :: st)))) : Ends p.tables e below Fz (T.setTop (mkF m pc Ls (.ref a :: st))) := by
  subst hp
  obtain ⟨T', X', e', st⟩ := castY X hx hZ hown w eT F (g := mkF m pc Ls (.ref a :: st)) rfl rfl (hb hby hd)
  exact Ends.of st (kt T' X' e')
theorem own_clone (X : Stand p l e R s m args below meth c T locs cells slots) (hx : p.tables.exec = Jvm.exec) (hby : c.code = bc) (hZ : Z.Warmed39 s.vm) {own ad : String} {index : Nat} {ty : FieldType} {a : Addr} {k : ClassId} {n : Int32} {vs : List Value} {dv : Value}
    (hown : s.vm.findClass own = some m.cls) (w1 : (Jvm.Cond.methodLink own index ⟨ad, "clone", "()Ljava/lang/Object;"⟩).before a0 Z = true) (w2 : (Jvm.Cond.sameMethod ad "java/lang/Object" "clone" "()Ljava/lang/Object;").before a0 Z = true) (w3 : (Jvm.Cond.native ⟨"java/lang/Object", "clone", "()Ljava/lang/Object;"⟩).before a0 Z = true)
    (w4 : (Jvm.Cond.instanceMethod ⟨"java/lang/Object", "clone", "()Ljava/lang/Object;"⟩).before a0 Z = true) (w5 : (Jvm.Cond.selects ad ⟨ad, "clone", "()Ljava/lang/Object;"⟩ ⟨"java/lang/Object", "clone", "()Ljava/lang/Object;"⟩).before a0 Z = true) (w6 : (Jvm.Cond.castable ad "java/lang/Cloneable").before a0 Z = true)
    (eT : T.heap = h) (V : Arv Z h a k ty n vs dv) (E : Exa Z h a ad) (hml : Ls.size = c.maxLocals) (hf : 1 ≤ R.frames) {W : Nat} (cap : Nat) (hW : (st.map fun v => v.category).sum ≤ W) (hlo : W + 14 ≤ R.locals) (hcap : n.toNatClampNeg ≤ cap) (hc : cells + 1 ≤ R.cells) (hl : slots + cap ≤ R.slots)
    (hd : decode bc pc = .ok (.invokevirtual index, 3)) (hp : pc + 3 = pc')
    (kt : ∀ T' h' b, Stand p l e R s m args below meth c T' locs (cells + 1) (slots + cap) → T'.heap = h' → b = h.size → Ext h h' → Arv Z h' b k ty n vs dv → Exa Z h' b ad → Ends p.tables e below Fz (T'.setTop (mkF m pc' Ls (.ref b :: st)))) : Ends p.tables e below Fz (T.setTop (mkF m pc Ls (.ref a :: st))) := by
  subst hp
  obtain ⟨T', h', X', e', ex, V', E', st⟩ := cloneH X hx hZ hown w1 w2 w3 w4 w5 w6 eT V.arh E (g := mkF m pc Ls (.ref a :: st)) rfl hml rfl (hb hby hd) hf (W := W) (by show 2 * 0 + _ ≤ _; omega) hlo hcap hc hl
  exact Ends.of st (kt T' h' _ X' e' rfl ex V' E')
theorem own_ext {h1 h2 h3 : Heap} (E : Ext h1 h2) (E' : Ext h2 h3) : Ext h1 h3 := ⟨Nat.le_trans E.1 E'.1, fun x c q => E'.2 x c (E.2 x c q)⟩
theorem own_lt {x b : Addr} (hx : x < h.size) (g : b = h.size) : x ≠ b := by rw [g]; exact Nat.ne_of_lt hx
theorem own_eqR {args : Array Value} {X F : Term} {a : Addr} (hF : F.eval args Z none [] Z = some (.ref a)) (h : (Jvm.Cond.eq X F).value args Z none Z [] = some true) : X.eval args Z none [] Z = some (.ref a) := Jvm.Cond.eq_refs (Jvm.Cond.before_iff.mpr h) hF rfl
theorem own_enumArr {args : Array Value} {t : Term} {a : Addr} {ty : FieldType} {z : Int32} {vs : List Value} (hf : Fit Z) (ev : t.eval args Z none [] Z = some (.ref a)) (hA : (Jvm.Cond.arrayOf t ty).value args Z none Z [] = some true) (hL : (Jvm.Cond.eq (.length t) (.int z)).value args Z none Z [] = some true) (hz : ¬ z < 0) (hl : z.toNatClampNeg = vs.length) (H : ∀ cl, Z.heap[a]? = some cl → HasL cl 0 vs) : ∃ k, Arv Z Z.heap a k ty z vs .null := by
  obtain ⟨cl, A⟩ := Arr.start ev hA
  have e1 := eqv_i (Term.int_eval z) hL
  have ha : Z.arrayAt? a = some cl := Arr.fin (Vm.Alike.refl _) A
  have e2 : cl.slots.size < 2 ^ 31 ∧ cl.slots.size.toInt32 = z := by
    by_cases q : cl.slots.size < 2 ^ 31
    · rw [len_f ev ha q] at e1
      exact ⟨q, Value.int.inj (Option.some.inj e1)⟩
    · simp [Term.eval, ev, ha, q] at e1
  exact ⟨_, Arv.start hf A e2.1 e2.2 hz hl (H cl A.1)⟩
end OwnH

def OwnG (Z : State) (a__VALUES a_PUBLIC_KEY a_PASSPHRASE_CRYPTOGRAM a_PUBLIC_KEY_CRYPTOGRAM a_SIGNATURE a_SIGNED_CRYPTOGRAM a_PRIVATE_KEY : Addr) : Prop := (Sta Z Z.heap "com/example/lemniscate/lemniscate/crypto/FileKind" "$VALUES" "[Lcom/example/lemniscate/lemniscate/crypto/FileKind;" (.ref a__VALUES)) ∧ (Exa Z Z.heap a__VALUES "[Lcom/example/lemniscate/lemniscate/crypto/FileKind;") ∧ (Sta Z Z.heap "com/example/lemniscate/lemniscate/crypto/FileKind" "PUBLIC_KEY" "Lcom/example/lemniscate/lemniscate/crypto/FileKind;" (.ref a_PUBLIC_KEY)) ∧ (Exa Z Z.heap a_PUBLIC_KEY "com/example/lemniscate/lemniscate/crypto/FileKind") ∧ (Sta Z Z.heap "com/example/lemniscate/lemniscate/crypto/FileKind" "PASSPHRASE_CRYPTOGRAM" "Lcom/example/lemniscate/lemniscate/crypto/FileKind;" (.ref a_PASSPHRASE_CRYPTOGRAM)) ∧ (Exa Z Z.heap a_PASSPHRASE_CRYPTOGRAM "com/example/lemniscate/lemniscate/crypto/FileKind") ∧ (Sta Z Z.heap "com/example/lemniscate/lemniscate/crypto/FileKind" "PUBLIC_KEY_CRYPTOGRAM" "Lcom/example/lemniscate/lemniscate/crypto/FileKind;" (.ref a_PUBLIC_KEY_CRYPTOGRAM)) ∧ (Exa Z Z.heap a_PUBLIC_KEY_CRYPTOGRAM "com/example/lemniscate/lemniscate/crypto/FileKind") ∧ (Sta Z Z.heap "com/example/lemniscate/lemniscate/crypto/FileKind" "SIGNATURE" "Lcom/example/lemniscate/lemniscate/crypto/FileKind;" (.ref a_SIGNATURE)) ∧ (Exa Z Z.heap a_SIGNATURE "com/example/lemniscate/lemniscate/crypto/FileKind") ∧ (Sta Z Z.heap "com/example/lemniscate/lemniscate/crypto/FileKind" "SIGNED_CRYPTOGRAM" "Lcom/example/lemniscate/lemniscate/crypto/FileKind;" (.ref a_SIGNED_CRYPTOGRAM)) ∧ (Exa Z Z.heap a_SIGNED_CRYPTOGRAM "com/example/lemniscate/lemniscate/crypto/FileKind") ∧ (Sta Z Z.heap "com/example/lemniscate/lemniscate/crypto/FileKind" "PRIVATE_KEY" "Lcom/example/lemniscate/lemniscate/crypto/FileKind;" (.ref a_PRIVATE_KEY)) ∧ (Exa Z Z.heap a_PRIVATE_KEY "com/example/lemniscate/lemniscate/crypto/FileKind") ∧ (Fld Z Z.heap a_PUBLIC_KEY "com/example/lemniscate/lemniscate/crypto/FileKind" "code" "B" (.int (1 : Int32))) ∧ (Fld Z Z.heap a_PASSPHRASE_CRYPTOGRAM "com/example/lemniscate/lemniscate/crypto/FileKind" "code" "B" (.int (2 : Int32))) ∧ (Fld Z Z.heap a_PUBLIC_KEY_CRYPTOGRAM "com/example/lemniscate/lemniscate/crypto/FileKind" "code" "B" (.int (3 : Int32))) ∧ (Fld Z Z.heap a_SIGNATURE "com/example/lemniscate/lemniscate/crypto/FileKind" "code" "B" (.int (4 : Int32))) ∧ (Fld Z Z.heap a_SIGNED_CRYPTOGRAM "com/example/lemniscate/lemniscate/crypto/FileKind" "code" "B" (.int (5 : Int32))) ∧ (Fld Z Z.heap a_PRIVATE_KEY "com/example/lemniscate/lemniscate/crypto/FileKind" "code" "B" (.int (6 : Int32))) ∧ (∃ k, Arv Z Z.heap a__VALUES k (Jvm.ClassFile.FieldType.object "com/example/lemniscate/lemniscate/crypto/FileKind") (6 : Int32) [(.ref a_PUBLIC_KEY), (.ref a_PASSPHRASE_CRYPTOGRAM), (.ref a_PUBLIC_KEY_CRYPTOGRAM), (.ref a_SIGNATURE), (.ref a_SIGNED_CRYPTOGRAM), (.ref a_PRIVATE_KEY)] .null)
theorem g_S__VALUES {Z : State} {a__VALUES a_PUBLIC_KEY a_PASSPHRASE_CRYPTOGRAM a_PUBLIC_KEY_CRYPTOGRAM a_SIGNATURE a_SIGNED_CRYPTOGRAM a_PRIVATE_KEY : Addr} (G : OwnG Z a__VALUES a_PUBLIC_KEY a_PASSPHRASE_CRYPTOGRAM a_PUBLIC_KEY_CRYPTOGRAM a_SIGNATURE a_SIGNED_CRYPTOGRAM a_PRIVATE_KEY) : Sta Z Z.heap "com/example/lemniscate/lemniscate/crypto/FileKind" "$VALUES" "[Lcom/example/lemniscate/lemniscate/crypto/FileKind;" (.ref a__VALUES) := G.1
theorem g_E__VALUES {Z : State} {a__VALUES a_PUBLIC_KEY a_PASSPHRASE_CRYPTOGRAM a_PUBLIC_KEY_CRYPTOGRAM a_SIGNATURE a_SIGNED_CRYPTOGRAM a_PRIVATE_KEY : Addr} (G : OwnG Z a__VALUES a_PUBLIC_KEY a_PASSPHRASE_CRYPTOGRAM a_PUBLIC_KEY_CRYPTOGRAM a_SIGNATURE a_SIGNED_CRYPTOGRAM a_PRIVATE_KEY) : Exa Z Z.heap a__VALUES "[Lcom/example/lemniscate/lemniscate/crypto/FileKind;" := G.2.1
theorem g_S_PUBLIC_KEY {Z : State} {a__VALUES a_PUBLIC_KEY a_PASSPHRASE_CRYPTOGRAM a_PUBLIC_KEY_CRYPTOGRAM a_SIGNATURE a_SIGNED_CRYPTOGRAM a_PRIVATE_KEY : Addr} (G : OwnG Z a__VALUES a_PUBLIC_KEY a_PASSPHRASE_CRYPTOGRAM a_PUBLIC_KEY_CRYPTOGRAM a_SIGNATURE a_SIGNED_CRYPTOGRAM a_PRIVATE_KEY) : Sta Z Z.heap "com/example/lemniscate/lemniscate/crypto/FileKind" "PUBLIC_KEY" "Lcom/example/lemniscate/lemniscate/crypto/FileKind;" (.ref a_PUBLIC_KEY) := G.2.2.1
theorem g_E_PUBLIC_KEY {Z : State} {a__VALUES a_PUBLIC_KEY a_PASSPHRASE_CRYPTOGRAM a_PUBLIC_KEY_CRYPTOGRAM a_SIGNATURE a_SIGNED_CRYPTOGRAM a_PRIVATE_KEY : Addr} (G : OwnG Z a__VALUES a_PUBLIC_KEY a_PASSPHRASE_CRYPTOGRAM a_PUBLIC_KEY_CRYPTOGRAM a_SIGNATURE a_SIGNED_CRYPTOGRAM a_PRIVATE_KEY) : Exa Z Z.heap a_PUBLIC_KEY "com/example/lemniscate/lemniscate/crypto/FileKind" := G.2.2.2.1
theorem g_S_PASSPHRASE_CRYPTOGRAM {Z : State} {a__VALUES a_PUBLIC_KEY a_PASSPHRASE_CRYPTOGRAM a_PUBLIC_KEY_CRYPTOGRAM a_SIGNATURE a_SIGNED_CRYPTOGRAM a_PRIVATE_KEY : Addr} (G : OwnG Z a__VALUES a_PUBLIC_KEY a_PASSPHRASE_CRYPTOGRAM a_PUBLIC_KEY_CRYPTOGRAM a_SIGNATURE a_SIGNED_CRYPTOGRAM a_PRIVATE_KEY) : Sta Z Z.heap "com/example/lemniscate/lemniscate/crypto/FileKind" "PASSPHRASE_CRYPTOGRAM" "Lcom/example/lemniscate/lemniscate/crypto/FileKind;" (.ref a_PASSPHRASE_CRYPTOGRAM) := G.2.2.2.2.1
theorem g_E_PASSPHRASE_CRYPTOGRAM {Z : State} {a__VALUES a_PUBLIC_KEY a_PASSPHRASE_CRYPTOGRAM a_PUBLIC_KEY_CRYPTOGRAM a_SIGNATURE a_SIGNED_CRYPTOGRAM a_PRIVATE_KEY : Addr} (G : OwnG Z a__VALUES a_PUBLIC_KEY a_PASSPHRASE_CRYPTOGRAM a_PUBLIC_KEY_CRYPTOGRAM a_SIGNATURE a_SIGNED_CRYPTOGRAM a_PRIVATE_KEY) : Exa Z Z.heap a_PASSPHRASE_CRYPTOGRAM "com/example/lemniscate/lemniscate/crypto/FileKind" := G.2.2.2.2.2.1
theorem g_S_PUBLIC_KEY_CRYPTOGRAM {Z : State} {a__VALUES a_PUBLIC_KEY a_PASSPHRASE_CRYPTOGRAM a_PUBLIC_KEY_CRYPTOGRAM a_SIGNATURE a_SIGNED_CRYPTOGRAM a_PRIVATE_KEY : Addr} (G : OwnG Z a__VALUES a_PUBLIC_KEY a_PASSPHRASE_CRYPTOGRAM a_PUBLIC_KEY_CRYPTOGRAM a_SIGNATURE a_SIGNED_CRYPTOGRAM a_PRIVATE_KEY) : Sta Z Z.heap "com/example/lemniscate/lemniscate/crypto/FileKind" "PUBLIC_KEY_CRYPTOGRAM" "Lcom/example/lemniscate/lemniscate/crypto/FileKind;" (.ref a_PUBLIC_KEY_CRYPTOGRAM) := G.2.2.2.2.2.2.1
theorem g_E_PUBLIC_KEY_CRYPTOGRAM {Z : State} {a__VALUES a_PUBLIC_KEY a_PASSPHRASE_CRYPTOGRAM a_PUBLIC_KEY_CRYPTOGRAM a_SIGNATURE a_SIGNED_CRYPTOGRAM a_PRIVATE_KEY : Addr} (G : OwnG Z a__VALUES a_PUBLIC_KEY a_PASSPHRASE_CRYPTOGRAM a_PUBLIC_KEY_CRYPTOGRAM a_SIGNATURE a_SIGNED_CRYPTOGRAM a_PRIVATE_KEY) : Exa Z Z.heap a_PUBLIC_KEY_CRYPTOGRAM "com/example/lemniscate/lemniscate/crypto/FileKind" := G.2.2.2.2.2.2.2.1
theorem g_S_SIGNATURE {Z : State} {a__VALUES a_PUBLIC_KEY a_PASSPHRASE_CRYPTOGRAM a_PUBLIC_KEY_CRYPTOGRAM a_SIGNATURE a_SIGNED_CRYPTOGRAM a_PRIVATE_KEY : Addr} (G : OwnG Z a__VALUES a_PUBLIC_KEY a_PASSPHRASE_CRYPTOGRAM a_PUBLIC_KEY_CRYPTOGRAM a_SIGNATURE a_SIGNED_CRYPTOGRAM a_PRIVATE_KEY) : Sta Z Z.heap "com/example/lemniscate/lemniscate/crypto/FileKind" "SIGNATURE" "Lcom/example/lemniscate/lemniscate/crypto/FileKind;" (.ref a_SIGNATURE) := G.2.2.2.2.2.2.2.2.1
theorem g_E_SIGNATURE {Z : State} {a__VALUES a_PUBLIC_KEY a_PASSPHRASE_CRYPTOGRAM a_PUBLIC_KEY_CRYPTOGRAM a_SIGNATURE a_SIGNED_CRYPTOGRAM a_PRIVATE_KEY : Addr} (G : OwnG Z a__VALUES a_PUBLIC_KEY a_PASSPHRASE_CRYPTOGRAM a_PUBLIC_KEY_CRYPTOGRAM a_SIGNATURE a_SIGNED_CRYPTOGRAM a_PRIVATE_KEY) : Exa Z Z.heap a_SIGNATURE "com/example/lemniscate/lemniscate/crypto/FileKind" := G.2.2.2.2.2.2.2.2.2.1
theorem g_S_SIGNED_CRYPTOGRAM {Z : State} {a__VALUES a_PUBLIC_KEY a_PASSPHRASE_CRYPTOGRAM a_PUBLIC_KEY_CRYPTOGRAM a_SIGNATURE a_SIGNED_CRYPTOGRAM a_PRIVATE_KEY : Addr} (G : OwnG Z a__VALUES a_PUBLIC_KEY a_PASSPHRASE_CRYPTOGRAM a_PUBLIC_KEY_CRYPTOGRAM a_SIGNATURE a_SIGNED_CRYPTOGRAM a_PRIVATE_KEY) : Sta Z Z.heap "com/example/lemniscate/lemniscate/crypto/FileKind" "SIGNED_CRYPTOGRAM" "Lcom/example/lemniscate/lemniscate/crypto/FileKind;" (.ref a_SIGNED_CRYPTOGRAM) := G.2.2.2.2.2.2.2.2.2.2.1
theorem g_E_SIGNED_CRYPTOGRAM {Z : State} {a__VALUES a_PUBLIC_KEY a_PASSPHRASE_CRYPTOGRAM a_PUBLIC_KEY_CRYPTOGRAM a_SIGNATURE a_SIGNED_CRYPTOGRAM a_PRIVATE_KEY : Addr} (G : OwnG Z a__VALUES a_PUBLIC_KEY a_PASSPHRASE_CRYPTOGRAM a_PUBLIC_KEY_CRYPTOGRAM a_SIGNATURE a_SIGNED_CRYPTOGRAM a_PRIVATE_KEY) : Exa Z Z.heap a_SIGNED_CRYPTOGRAM "com/example/lemniscate/lemniscate/crypto/FileKind" := G.2.2.2.2.2.2.2.2.2.2.2.1
theorem g_S_PRIVATE_KEY {Z : State} {a__VALUES a_PUBLIC_KEY a_PASSPHRASE_CRYPTOGRAM a_PUBLIC_KEY_CRYPTOGRAM a_SIGNATURE a_SIGNED_CRYPTOGRAM a_PRIVATE_KEY : Addr} (G : OwnG Z a__VALUES a_PUBLIC_KEY a_PASSPHRASE_CRYPTOGRAM a_PUBLIC_KEY_CRYPTOGRAM a_SIGNATURE a_SIGNED_CRYPTOGRAM a_PRIVATE_KEY) : Sta Z Z.heap "com/example/lemniscate/lemniscate/crypto/FileKind" "PRIVATE_KEY" "Lcom/example/lemniscate/lemniscate/crypto/FileKind;" (.ref a_PRIVATE_KEY) := G.2.2.2.2.2.2.2.2.2.2.2.2.1
theorem g_E_PRIVATE_KEY {Z : State} {a__VALUES a_PUBLIC_KEY a_PASSPHRASE_CRYPTOGRAM a_PUBLIC_KEY_CRYPTOGRAM a_SIGNATURE a_SIGNED_CRYPTOGRAM a_PRIVATE_KEY : Addr} (G : OwnG Z a__VALUES a_PUBLIC_KEY a_PASSPHRASE_CRYPTOGRAM a_PUBLIC_KEY_CRYPTOGRAM a_SIGNATURE a_SIGNED_CRYPTOGRAM a_PRIVATE_KEY) : Exa Z Z.heap a_PRIVATE_KEY "com/example/lemniscate/lemniscate/crypto/FileKind" := G.2.2.2.2.2.2.2.2.2.2.2.2.2.1
theorem g_F_PUBLIC_KEY_code {Z : State} {a__VALUES a_PUBLIC_KEY a_PASSPHRASE_CRYPTOGRAM a_PUBLIC_KEY_CRYPTOGRAM a_SIGNATURE a_SIGNED_CRYPTOGRAM a_PRIVATE_KEY : Addr} (G : OwnG Z a__VALUES a_PUBLIC_KEY a_PASSPHRASE_CRYPTOGRAM a_PUBLIC_KEY_CRYPTOGRAM a_SIGNATURE a_SIGNED_CRYPTOGRAM a_PRIVATE_KEY) : Fld Z Z.heap a_PUBLIC_KEY "com/example/lemniscate/lemniscate/crypto/FileKind" "code" "B" (.int (1 : Int32)) := G.2.2.2.2.2.2.2.2.2.2.2.2.2.2.1
theorem g_F_PASSPHRASE_CRYPTOGRAM_code {Z : State} {a__VALUES a_PUBLIC_KEY a_PASSPHRASE_CRYPTOGRAM a_PUBLIC_KEY_CRYPTOGRAM a_SIGNATURE a_SIGNED_CRYPTOGRAM a_PRIVATE_KEY : Addr} (G : OwnG Z a__VALUES a_PUBLIC_KEY a_PASSPHRASE_CRYPTOGRAM a_PUBLIC_KEY_CRYPTOGRAM a_SIGNATURE a_SIGNED_CRYPTOGRAM a_PRIVATE_KEY) : Fld Z Z.heap a_PASSPHRASE_CRYPTOGRAM "com/example/lemniscate/lemniscate/crypto/FileKind" "code" "B" (.int (2 : Int32)) := G.2.2.2.2.2.2.2.2.2.2.2.2.2.2.2.1
theorem g_F_PUBLIC_KEY_CRYPTOGRAM_code {Z : State} {a__VALUES a_PUBLIC_KEY a_PASSPHRASE_CRYPTOGRAM a_PUBLIC_KEY_CRYPTOGRAM a_SIGNATURE a_SIGNED_CRYPTOGRAM a_PRIVATE_KEY : Addr} (G : OwnG Z a__VALUES a_PUBLIC_KEY a_PASSPHRASE_CRYPTOGRAM a_PUBLIC_KEY_CRYPTOGRAM a_SIGNATURE a_SIGNED_CRYPTOGRAM a_PRIVATE_KEY) : Fld Z Z.heap a_PUBLIC_KEY_CRYPTOGRAM "com/example/lemniscate/lemniscate/crypto/FileKind" "code" "B" (.int (3 : Int32)) := G.2.2.2.2.2.2.2.2.2.2.2.2.2.2.2.2.1
theorem g_F_SIGNATURE_code {Z : State} {a__VALUES a_PUBLIC_KEY a_PASSPHRASE_CRYPTOGRAM a_PUBLIC_KEY_CRYPTOGRAM a_SIGNATURE a_SIGNED_CRYPTOGRAM a_PRIVATE_KEY : Addr} (G : OwnG Z a__VALUES a_PUBLIC_KEY a_PASSPHRASE_CRYPTOGRAM a_PUBLIC_KEY_CRYPTOGRAM a_SIGNATURE a_SIGNED_CRYPTOGRAM a_PRIVATE_KEY) : Fld Z Z.heap a_SIGNATURE "com/example/lemniscate/lemniscate/crypto/FileKind" "code" "B" (.int (4 : Int32)) := G.2.2.2.2.2.2.2.2.2.2.2.2.2.2.2.2.2.1
theorem g_F_SIGNED_CRYPTOGRAM_code {Z : State} {a__VALUES a_PUBLIC_KEY a_PASSPHRASE_CRYPTOGRAM a_PUBLIC_KEY_CRYPTOGRAM a_SIGNATURE a_SIGNED_CRYPTOGRAM a_PRIVATE_KEY : Addr} (G : OwnG Z a__VALUES a_PUBLIC_KEY a_PASSPHRASE_CRYPTOGRAM a_PUBLIC_KEY_CRYPTOGRAM a_SIGNATURE a_SIGNED_CRYPTOGRAM a_PRIVATE_KEY) : Fld Z Z.heap a_SIGNED_CRYPTOGRAM "com/example/lemniscate/lemniscate/crypto/FileKind" "code" "B" (.int (5 : Int32)) := G.2.2.2.2.2.2.2.2.2.2.2.2.2.2.2.2.2.2.1
theorem g_F_PRIVATE_KEY_code {Z : State} {a__VALUES a_PUBLIC_KEY a_PASSPHRASE_CRYPTOGRAM a_PUBLIC_KEY_CRYPTOGRAM a_SIGNATURE a_SIGNED_CRYPTOGRAM a_PRIVATE_KEY : Addr} (G : OwnG Z a__VALUES a_PUBLIC_KEY a_PASSPHRASE_CRYPTOGRAM a_PUBLIC_KEY_CRYPTOGRAM a_SIGNATURE a_SIGNED_CRYPTOGRAM a_PRIVATE_KEY) : Fld Z Z.heap a_PRIVATE_KEY "com/example/lemniscate/lemniscate/crypto/FileKind" "code" "B" (.int (6 : Int32)) := G.2.2.2.2.2.2.2.2.2.2.2.2.2.2.2.2.2.2.2.1
theorem g_V__VALUES {Z : State} {a__VALUES a_PUBLIC_KEY a_PASSPHRASE_CRYPTOGRAM a_PUBLIC_KEY_CRYPTOGRAM a_SIGNATURE a_SIGNED_CRYPTOGRAM a_PRIVATE_KEY : Addr} (G : OwnG Z a__VALUES a_PUBLIC_KEY a_PASSPHRASE_CRYPTOGRAM a_PUBLIC_KEY_CRYPTOGRAM a_SIGNATURE a_SIGNED_CRYPTOGRAM a_PRIVATE_KEY) : ∃ k, Arv Z Z.heap a__VALUES k (Jvm.ClassFile.FieldType.object "com/example/lemniscate/lemniscate/crypto/FileKind") (6 : Int32) [(.ref a_PUBLIC_KEY), (.ref a_PASSPHRASE_CRYPTOGRAM), (.ref a_PUBLIC_KEY_CRYPTOGRAM), (.ref a_SIGNATURE), (.ref a_SIGNED_CRYPTOGRAM), (.ref a_PRIVATE_KEY)] .null := G.2.2.2.2.2.2.2.2.2.2.2.2.2.2.2.2.2.2.2.2

def own_kind (b : Int32) (a_PUBLIC_KEY a_PASSPHRASE_CRYPTOGRAM a_PUBLIC_KEY_CRYPTOGRAM a_SIGNATURE a_SIGNED_CRYPTOGRAM a_PRIVATE_KEY : Addr) : Value := if b = 1 then .ref a_PUBLIC_KEY else if b = 2 then .ref a_PASSPHRASE_CRYPTOGRAM else if b = 3 then .ref a_PUBLIC_KEY_CRYPTOGRAM else if b = 4 then .ref a_SIGNATURE else if b = 5 then .ref a_SIGNED_CRYPTOGRAM else if b = 6 then .ref a_PRIVATE_KEY else .null
theorem own_kind_ref (b : Int32) (a_PUBLIC_KEY a_PASSPHRASE_CRYPTOGRAM a_PUBLIC_KEY_CRYPTOGRAM a_SIGNATURE a_SIGNED_CRYPTOGRAM a_PRIVATE_KEY : Addr) : (own_kind b a_PUBLIC_KEY a_PASSPHRASE_CRYPTOGRAM a_PUBLIC_KEY_CRYPTOGRAM a_SIGNATURE a_SIGNED_CRYPTOGRAM a_PRIVATE_KEY).isRef = true := by
  unfold own_kind; repeat' split
  all_goals rfl
theorem tw_0 : (Jvm.Cond.methodLink "com/example/lemniscate/lemniscate/crypto/FileKindFindPinLaw" (28 : Nat) ({ cls := "com/example/lemniscate/lemniscate/crypto/FileKindFindPinLaw", name := "expected", desc := "(B)Lcom/example/lemniscate/lemniscate/crypto/FileKind;" } : Jvm.MethodName)) ∈ tables_1 := List.mem_of_getElem? (i := 0) rfl
theorem tw_1 : (Jvm.Cond.static ({ cls := "com/example/lemniscate/lemniscate/crypto/FileKindFindPinLaw", name := "expected", desc := "(B)Lcom/example/lemniscate/lemniscate/crypto/FileKind;" } : Jvm.MethodName)) ∈ tables_1 := List.mem_of_getElem? (i := 1) rfl
theorem tw_2 : (Jvm.Cond.initialized "com/example/lemniscate/lemniscate/crypto/FileKindFindPinLaw") ∈ tables_1 := List.mem_of_getElem? (i := 2) rfl
theorem tw_3 : (Jvm.Cond.code ({ cls := "com/example/lemniscate/lemniscate/crypto/FileKindFindPinLaw", name := "expected", desc := "(B)Lcom/example/lemniscate/lemniscate/crypto/FileKind;" } : Jvm.MethodName) method_2_code (1 : Nat) (Option.some (Jvm.ClassFile.FieldType.object "com/example/lemniscate/lemniscate/crypto/FileKind"))) ∈ tables_1 := List.mem_of_getElem? (i := 3) rfl
theorem tw_4 : (Jvm.Cond.methodLink "com/example/lemniscate/lemniscate/crypto/FileKindFindPinLaw" (34 : Nat) ({ cls := "com/example/lemniscate/lemniscate/crypto/FileKind", name := "find", desc := "(B)Lcom/example/lemniscate/lemniscate/crypto/FileKind;" } : Jvm.MethodName)) ∈ tables_1 := List.mem_of_getElem? (i := 4) rfl
theorem tw_5 : (Jvm.Cond.static ({ cls := "com/example/lemniscate/lemniscate/crypto/FileKind", name := "find", desc := "(B)Lcom/example/lemniscate/lemniscate/crypto/FileKind;" } : Jvm.MethodName)) ∈ tables_1 := List.mem_of_getElem? (i := 5) rfl
theorem tw_6 : (Jvm.Cond.initialized "com/example/lemniscate/lemniscate/crypto/FileKind") ∈ tables_1 := List.mem_of_getElem? (i := 6) rfl
theorem tw_7 : (Jvm.Cond.code ({ cls := "com/example/lemniscate/lemniscate/crypto/FileKind", name := "find", desc := "(B)Lcom/example/lemniscate/lemniscate/crypto/FileKind;" } : Jvm.MethodName) prog_31_method_8_code (5 : Nat) (Option.some (Jvm.ClassFile.FieldType.object "com/example/lemniscate/lemniscate/crypto/FileKind"))) ∈ tables_1 := List.mem_of_getElem? (i := 7) rfl
theorem tw_8 : (Jvm.Cond.methodLink "com/example/lemniscate/lemniscate/crypto/FileKind" (56 : Nat) ({ cls := "com/example/lemniscate/lemniscate/crypto/FileKind", name := "values", desc := "()[Lcom/example/lemniscate/lemniscate/crypto/FileKind;" } : Jvm.MethodName)) ∈ tables_1 := List.mem_of_getElem? (i := 8) rfl
theorem tw_9 : (Jvm.Cond.static ({ cls := "com/example/lemniscate/lemniscate/crypto/FileKind", name := "values", desc := "()[Lcom/example/lemniscate/lemniscate/crypto/FileKind;" } : Jvm.MethodName)) ∈ tables_1 := List.mem_of_getElem? (i := 9) rfl
theorem tw_10 : (Jvm.Cond.code ({ cls := "com/example/lemniscate/lemniscate/crypto/FileKind", name := "values", desc := "()[Lcom/example/lemniscate/lemniscate/crypto/FileKind;" } : Jvm.MethodName) prog_31_method_1_code (0 : Nat) (Option.some (Jvm.ClassFile.FieldType.array (Jvm.ClassFile.FieldType.object "com/example/lemniscate/lemniscate/crypto/FileKind")))) ∈ tables_1 := List.mem_of_getElem? (i := 10) rfl
theorem tw_11 : (Jvm.Cond.fieldLink "com/example/lemniscate/lemniscate/crypto/FileKind" (22 : Nat) "com/example/lemniscate/lemniscate/crypto/FileKind" "$VALUES" "[Lcom/example/lemniscate/lemniscate/crypto/FileKind;") ∈ tables_1 := List.mem_of_getElem? (i := 11) rfl
theorem tw_12 : (Jvm.Cond.laysStatic "com/example/lemniscate/lemniscate/crypto/FileKind" "$VALUES" "[Lcom/example/lemniscate/lemniscate/crypto/FileKind;") ∈ tables_1 := List.mem_of_getElem? (i := 12) rfl
theorem tw_13 : (Jvm.Cond.methodLink "com/example/lemniscate/lemniscate/crypto/FileKind" (26 : Nat) ({ cls := "[Lcom/example/lemniscate/lemniscate/crypto/FileKind;", name := "clone", desc := "()Ljava/lang/Object;" } : Jvm.MethodName)) ∈ tables_1 := List.mem_of_getElem? (i := 13) rfl
theorem tw_14 : (Jvm.Cond.sameMethod "[Lcom/example/lemniscate/lemniscate/crypto/FileKind;" "java/lang/Object" "clone" "()Ljava/lang/Object;") ∈ tables_1 := List.mem_of_getElem? (i := 14) rfl
theorem tw_16 : (Jvm.Cond.instanceMethod ({ cls := "java/lang/Object", name := "clone", desc := "()Ljava/lang/Object;" } : Jvm.MethodName)) ∈ tables_1 := List.mem_of_getElem? (i := 16) rfl
theorem tw_17 : (Jvm.Cond.selects "[Lcom/example/lemniscate/lemniscate/crypto/FileKind;" ({ cls := "[Lcom/example/lemniscate/lemniscate/crypto/FileKind;", name := "clone", desc := "()Ljava/lang/Object;" } : Jvm.MethodName) ({ cls := "java/lang/Object", name := "clone", desc := "()Ljava/lang/Object;" } : Jvm.MethodName)) ∈ tables_1 := List.mem_of_getElem? (i := 17) rfl
theorem tw_18 : (Jvm.Cond.native ({ cls := "java/lang/Object", name := "clone", desc := "()Ljava/lang/Object;" } : Jvm.MethodName)) ∈ tables_1 := List.mem_of_getElem? (i := 18) rfl
theorem tw_19 : (Jvm.Cond.castable "[Lcom/example/lemniscate/lemniscate/crypto/FileKind;" "java/lang/Cloneable") ∈ tables_1 := List.mem_of_getElem? (i := 19) rfl
theorem tw_20 : (Jvm.Cond.laysStatic "com/example/lemniscate/lemniscate/crypto/FileKind" "PUBLIC_KEY" "Lcom/example/lemniscate/lemniscate/crypto/FileKind;") ∈ tables_1 := List.mem_of_getElem? (i := 20) rfl
theorem tw_21 : (Jvm.Cond.laysStatic "com/example/lemniscate/lemniscate/crypto/FileKind" "PASSPHRASE_CRYPTOGRAM" "Lcom/example/lemniscate/lemniscate/crypto/FileKind;") ∈ tables_1 := List.mem_of_getElem? (i := 21) rfl
theorem tw_22 : (Jvm.Cond.laysStatic "com/example/lemniscate/lemniscate/crypto/FileKind" "PUBLIC_KEY_CRYPTOGRAM" "Lcom/example/lemniscate/lemniscate/crypto/FileKind;") ∈ tables_1 := List.mem_of_getElem? (i := 22) rfl
theorem tw_23 : (Jvm.Cond.laysStatic "com/example/lemniscate/lemniscate/crypto/FileKind" "SIGNATURE" "Lcom/example/lemniscate/lemniscate/crypto/FileKind;") ∈ tables_1 := List.mem_of_getElem? (i := 23) rfl
theorem tw_24 : (Jvm.Cond.laysStatic "com/example/lemniscate/lemniscate/crypto/FileKind" "SIGNED_CRYPTOGRAM" "Lcom/example/lemniscate/lemniscate/crypto/FileKind;") ∈ tables_1 := List.mem_of_getElem? (i := 24) rfl
theorem tw_25 : (Jvm.Cond.laysStatic "com/example/lemniscate/lemniscate/crypto/FileKind" "PRIVATE_KEY" "Lcom/example/lemniscate/lemniscate/crypto/FileKind;") ∈ tables_1 := List.mem_of_getElem? (i := 25) rfl
theorem tw_27 : (Jvm.Cond.classLink "com/example/lemniscate/lemniscate/crypto/FileKind" (27 : Nat) "[Lcom/example/lemniscate/lemniscate/crypto/FileKind;") ∈ tables_1 := List.mem_of_getElem? (i := 27) rfl
theorem tw_29 : (Jvm.Cond.fieldLink "com/example/lemniscate/lemniscate/crypto/FileKind" (41 : Nat) "com/example/lemniscate/lemniscate/crypto/FileKind" "code" "B") ∈ tables_1 := List.mem_of_getElem? (i := 29) rfl
theorem tw_31 : (Jvm.Cond.fieldLink "com/example/lemniscate/lemniscate/crypto/FileKindFindPinLaw" (16 : Nat) "com/example/lemniscate/lemniscate/crypto/FileKind" "PUBLIC_KEY_CRYPTOGRAM" "Lcom/example/lemniscate/lemniscate/crypto/FileKind;") ∈ tables_1 := List.mem_of_getElem? (i := 31) rfl
theorem tw_32 : (Jvm.Cond.fieldLink "com/example/lemniscate/lemniscate/crypto/FileKindFindPinLaw" (13 : Nat) "com/example/lemniscate/lemniscate/crypto/FileKind" "PASSPHRASE_CRYPTOGRAM" "Lcom/example/lemniscate/lemniscate/crypto/FileKind;") ∈ tables_1 := List.mem_of_getElem? (i := 32) rfl
theorem tw_33 : (Jvm.Cond.fieldLink "com/example/lemniscate/lemniscate/crypto/FileKindFindPinLaw" (7 : Nat) "com/example/lemniscate/lemniscate/crypto/FileKind" "PUBLIC_KEY" "Lcom/example/lemniscate/lemniscate/crypto/FileKind;") ∈ tables_1 := List.mem_of_getElem? (i := 33) rfl
theorem tw_34 : (Jvm.Cond.fieldLink "com/example/lemniscate/lemniscate/crypto/FileKindFindPinLaw" (25 : Nat) "com/example/lemniscate/lemniscate/crypto/FileKind" "PRIVATE_KEY" "Lcom/example/lemniscate/lemniscate/crypto/FileKind;") ∈ tables_1 := List.mem_of_getElem? (i := 34) rfl
theorem tw_35 : (Jvm.Cond.fieldLink "com/example/lemniscate/lemniscate/crypto/FileKindFindPinLaw" (22 : Nat) "com/example/lemniscate/lemniscate/crypto/FileKind" "SIGNED_CRYPTOGRAM" "Lcom/example/lemniscate/lemniscate/crypto/FileKind;") ∈ tables_1 := List.mem_of_getElem? (i := 35) rfl
theorem tw_36 : (Jvm.Cond.fieldLink "com/example/lemniscate/lemniscate/crypto/FileKindFindPinLaw" (19 : Nat) "com/example/lemniscate/lemniscate/crypto/FileKind" "SIGNATURE" "Lcom/example/lemniscate/lemniscate/crypto/FileKind;") ∈ tables_1 := List.mem_of_getElem? (i := 36) rfl
theorem d1_0 : decode method_2_code 0 = .ok (.iload_n 0, 1) := by decide +kernel
theorem d1_1 : decode method_2_code 1 = .ok (.iconst 1, 1) := by decide +kernel
theorem d1_2 : decode method_2_code 2 = .ok (.if_icmp .ne 7, 3) := by decide +kernel
theorem d1_5 : decode method_2_code 5 = .ok (.getstatic 7, 3) := by decide +kernel
theorem d1_8 : decode method_2_code 8 = .ok (.areturn, 1) := by decide +kernel
theorem d1_9 : decode method_2_code 9 = .ok (.iload_n 0, 1) := by decide +kernel
theorem d1_10 : decode method_2_code 10 = .ok (.iconst 2, 1) := by decide +kernel
theorem d1_11 : decode method_2_code 11 = .ok (.if_icmp .ne 7, 3) := by decide +kernel
theorem d1_14 : decode method_2_code 14 = .ok (.getstatic 13, 3) := by decide +kernel
theorem d1_17 : decode method_2_code 17 = .ok (.areturn, 1) := by decide +kernel
theorem d1_18 : decode method_2_code 18 = .ok (.iload_n 0, 1) := by decide +kernel
theorem d1_19 : decode method_2_code 19 = .ok (.iconst 3, 1) := by decide +kernel
theorem d1_20 : decode method_2_code 20 = .ok (.if_icmp .ne 7, 3) := by decide +kernel
theorem d1_23 : decode method_2_code 23 = .ok (.getstatic 16, 3) := by decide +kernel
theorem d1_26 : decode method_2_code 26 = .ok (.areturn, 1) := by decide +kernel
theorem d1_27 : decode method_2_code 27 = .ok (.iload_n 0, 1) := by decide +kernel
theorem d1_28 : decode method_2_code 28 = .ok (.iconst 4, 1) := by decide +kernel
theorem d1_29 : decode method_2_code 29 = .ok (.if_icmp .ne 7, 3) := by decide +kernel
theorem d1_32 : decode method_2_code 32 = .ok (.getstatic 19, 3) := by decide +kernel
theorem d1_35 : decode method_2_code 35 = .ok (.areturn, 1) := by decide +kernel
theorem d1_36 : decode method_2_code 36 = .ok (.iload_n 0, 1) := by decide +kernel
theorem d1_37 : decode method_2_code 37 = .ok (.iconst 5, 1) := by decide +kernel
theorem d1_38 : decode method_2_code 38 = .ok (.if_icmp .ne 7, 3) := by decide +kernel
theorem d1_41 : decode method_2_code 41 = .ok (.getstatic 22, 3) := by decide +kernel
theorem d1_44 : decode method_2_code 44 = .ok (.areturn, 1) := by decide +kernel
theorem d1_45 : decode method_2_code 45 = .ok (.iload_n 0, 1) := by decide +kernel
theorem d1_46 : decode method_2_code 46 = .ok (.bipush 6, 2) := by decide +kernel
theorem d1_48 : decode method_2_code 48 = .ok (.if_icmp .ne 7, 3) := by decide +kernel
theorem d1_51 : decode method_2_code 51 = .ok (.getstatic 25, 3) := by decide +kernel
theorem d1_54 : decode method_2_code 54 = .ok (.areturn, 1) := by decide +kernel
theorem d1_55 : decode method_2_code 55 = .ok (.aconst_null, 1) := by decide +kernel
theorem d1_56 : decode method_2_code 56 = .ok (.areturn, 1) := by decide +kernel
theorem d2_0 : decode prog_31_method_8_code 0 = .ok (.invokestatic 56, 3) := by decide +kernel
theorem d2_3 : decode prog_31_method_8_code 3 = .ok (.astore_n 1, 1) := by decide +kernel
theorem d2_4 : decode prog_31_method_8_code 4 = .ok (.aload_n 1, 1) := by decide +kernel
theorem d2_5 : decode prog_31_method_8_code 5 = .ok (.arraylength, 1) := by decide +kernel
theorem d2_6 : decode prog_31_method_8_code 6 = .ok (.istore_n 2, 1) := by decide +kernel
theorem d2_7 : decode prog_31_method_8_code 7 = .ok (.iconst 0, 1) := by decide +kernel
theorem d2_8 : decode prog_31_method_8_code 8 = .ok (.istore_n 3, 1) := by decide +kernel
theorem d2_9 : decode prog_31_method_8_code 9 = .ok (.iload_n 3, 1) := by decide +kernel
theorem d2_10 : decode prog_31_method_8_code 10 = .ok (.iload_n 2, 1) := by decide +kernel
theorem d2_11 : decode prog_31_method_8_code 11 = .ok (.if_icmp .ge 26, 3) := by decide +kernel
theorem d2_14 : decode prog_31_method_8_code 14 = .ok (.aload_n 1, 1) := by decide +kernel
theorem d2_15 : decode prog_31_method_8_code 15 = .ok (.iload_n 3, 1) := by decide +kernel
theorem d2_16 : decode prog_31_method_8_code 16 = .ok (.aaload, 1) := by decide +kernel
theorem d2_17 : decode prog_31_method_8_code 17 = .ok (.astore 4, 2) := by decide +kernel
theorem d2_19 : decode prog_31_method_8_code 19 = .ok (.aload 4, 2) := by decide +kernel
theorem d2_21 : decode prog_31_method_8_code 21 = .ok (.getfield 41, 3) := by decide +kernel
theorem d2_24 : decode prog_31_method_8_code 24 = .ok (.iload_n 0, 1) := by decide +kernel
theorem d2_25 : decode prog_31_method_8_code 25 = .ok (.if_icmp .ne 6, 3) := by decide +kernel
theorem d2_28 : decode prog_31_method_8_code 28 = .ok (.aload 4, 2) := by decide +kernel
theorem d2_30 : decode prog_31_method_8_code 30 = .ok (.areturn, 1) := by decide +kernel
theorem d2_31 : decode prog_31_method_8_code 31 = .ok (.iinc 3 1, 3) := by decide +kernel
theorem d2_34 : decode prog_31_method_8_code 34 = .ok (.goto (-25), 3) := by decide +kernel
theorem d2_37 : decode prog_31_method_8_code 37 = .ok (.aconst_null, 1) := by decide +kernel
theorem d2_38 : decode prog_31_method_8_code 38 = .ok (.areturn, 1) := by decide +kernel
theorem d3_0 : decode prog_31_method_1_code 0 = .ok (.getstatic 22, 3) := by decide +kernel
theorem d3_3 : decode prog_31_method_1_code 3 = .ok (.invokevirtual 26, 3) := by decide +kernel
theorem d3_6 : decode prog_31_method_1_code 6 = .ok (.checkcast 27, 3) := by decide +kernel
theorem d3_9 : decode prog_31_method_1_code 9 = .ok (.areturn, 1) := by decide +kernel
theorem pd_0 : parseMethodDescriptor "()[Lcom/example/lemniscate/lemniscate/crypto/FileKind;" = some ⟨[], some (.array (.object "com/example/lemniscate/lemniscate/crypto/FileKind"))⟩ := by decide +kernel
theorem pd_1 : parseMethodDescriptor "(B)Lcom/example/lemniscate/lemniscate/crypto/FileKind;" = some ⟨[.byte], some (.object "com/example/lemniscate/lemniscate/crypto/FileKind")⟩ := by decide +kernel
theorem pn_0 : plainName "com/example/lemniscate/lemniscate/crypto/FileKind" = true := by first | (simp [plainName, overriddenIn]; done) | decide +kernel
theorem pn_1 : plainName "com/example/lemniscate/lemniscate/crypto/FileKindFindPinLaw" = true := by first | (simp [plainName, overriddenIn]; done) | decide +kernel
theorem ef_3 (m : MethodId)  : entryFrame m #[] 0 = mkF m 0 #[] [] := by first | (simp [entryFrame, mkF, argsToLocals, Value.category]; done) | rfl
theorem ef_1 (m : MethodId) (x0 : Int32) : entryFrame m #[(.int x0)] 1 = mkF m 0 #[.val (.int x0)] [] := by first | (simp [entryFrame, mkF, argsToLocals, Value.category]; done) | rfl
theorem ef_2 (m : MethodId) (x0 : Int32) : entryFrame m #[(.int x0)] 5 = mkF m 0 #[.val (.int x0), .unset, .unset, .unset, .unset] [] := by first | (simp [entryFrame, mkF, argsToLocals, Value.category]; done) | rfl
theorem ef_0 (m : MethodId) (x0 : Int32) : entryFrame m #[(.int x0)] maxLocals = mkF m 0 #[.val (.int x0), .unset, .unset, .unset] [] := by first | (simp [entryFrame, mkF, argsToLocals, Value.category, maxLocals]; done) | rfl
set_option maxRecDepth 65536 in
set_option maxHeartbeats 40000000 in
theorem rm3 (l : Launch) (Z : State) (a0 : Array Value) (hw : ∀ d ∈ tables_1, d.before a0 Z = true)  (h0 : Heap) {a__VALUES a_PUBLIC_KEY a_PASSPHRASE_CRYPTOGRAM a_PUBLIC_KEY_CRYPTOGRAM a_SIGNATURE a_SIGNED_CRYPTOGRAM a_PRIVATE_KEY : Addr} (G : OwnG Z a__VALUES a_PUBLIC_KEY a_PASSPHRASE_CRYPTOGRAM a_PUBLIC_KEY_CRYPTOGRAM a_SIGNATURE a_SIGNED_CRYPTOGRAM a_PRIVATE_KEY) (O : Ext Z.heap h0) :
    OwnMet l Z (⟨"com/example/lemniscate/lemniscate/crypto/FileKind", "values", "()[Lcom/example/lemniscate/lemniscate/crypto/FileKind;"⟩ : MethodName) prog_31_method_1_code 0 (some (.array (.object "com/example/lemniscate/lemniscate/crypto/FileKind"))) [] ({ frames := 1, cells := 1, slots := 6, locals := 14 } : Room) #[] h0 (fun v h L => ∃ b k, v = some (.ref b) ∧ L = [] ∧ Ext h0 h ∧ b = h0.size ∧ Arv Z h b k (Jvm.ClassFile.FieldType.object "com/example/lemniscate/lemniscate/crypto/FileKind") (6 : Int32) [(.ref a_PUBLIC_KEY), (.ref a_PASSPHRASE_CRYPTOGRAM), (.ref a_PUBLIC_KEY_CRYPTOGRAM), (.ref a_SIGNATURE), (.ref a_SIGNED_CRYPTOGRAM), (.ref a_PRIVATE_KEY)] .null) := by
  refine own_body (plainFor_of_name pn_0) (fun m => ef_3 m ) ?_
  intro p e s m below meth c s₁ X0 hx hby hml hown hnm hret hlk hZ e0
  replace hown : s.vm.findClass "com/example/lemniscate/lemniscate/crypto/FileKind" = some m.cls := hown
  replace hml : c.maxLocals = 0 := hml
  show Ends p.tables e below _ (s₁.setTop (mkF m 0 #[] []))
  obtain ⟨kV, VV⟩ := g_V__VALUES G
  refine own_getstatic X0 hx hby hZ hown (host := "") (Or.inl (hw _ tw_11)) Via.refl e0 ((g_S__VALUES G).ext O) d3_0 rfl (fun T1 X1 e1 => ?_)
  refine own_clone X1 hx hby hZ hown (hw _ tw_13) (hw _ tw_14) (hw _ tw_18) (hw _ tw_16) (hw _ tw_17) (hw _ tw_19) e1 (VV.ext O) ((g_E__VALUES G).ext O) (by rw [hml]; rfl) (by decide) (W := 0) 6 (by decide) (by decide) (by decide) (by decide) (by decide) d3_3 rfl (fun T2 h2 b2 X2 e2 g2 E2 V2 A2 => ?_)
  have ne_a__VALUES_b2 : a__VALUES ≠ b2 := own_lt (VV.ext O).lt g2
  refine own_checkcast X2 hx hby hZ hown (hw _ tw_27) e2 (Ins.self A2) d3_6 rfl (fun T3 X3 e3 => ?_)
  refine own_ret X3 hx hby hret hlk d3_9 (.ref b2) rfl (Or.inr (Or.inr ⟨rfl, rfl, rfl⟩)) (by decide) (by decide) ?_
  rw [e3]
  exact ⟨b2, _, rfl, rfl, E2, g2, V2⟩
set_option maxRecDepth 65536 in
set_option maxHeartbeats 40000000 in
theorem rm1 (l : Launch) (Z : State) (a0 : Array Value) (hw : ∀ d ∈ tables_1, d.before a0 Z = true) (x0 : Int32) (h0 : Heap) {a__VALUES a_PUBLIC_KEY a_PASSPHRASE_CRYPTOGRAM a_PUBLIC_KEY_CRYPTOGRAM a_SIGNATURE a_SIGNED_CRYPTOGRAM a_PRIVATE_KEY : Addr} (G : OwnG Z a__VALUES a_PUBLIC_KEY a_PASSPHRASE_CRYPTOGRAM a_PUBLIC_KEY_CRYPTOGRAM a_SIGNATURE a_SIGNED_CRYPTOGRAM a_PRIVATE_KEY) (O : Ext Z.heap h0) :
    OwnMet l Z (⟨"com/example/lemniscate/lemniscate/crypto/FileKindFindPinLaw", "expected", "(B)Lcom/example/lemniscate/lemniscate/crypto/FileKind;"⟩ : MethodName) method_2_code 1 (some (.object "com/example/lemniscate/lemniscate/crypto/FileKind")) [] ({ frames := 0, cells := 0, slots := 0, locals := 0 } : Room) #[(.int x0)] h0 (fun v h L => v = some (own_kind x0 a_PUBLIC_KEY a_PASSPHRASE_CRYPTOGRAM a_PUBLIC_KEY_CRYPTOGRAM a_SIGNATURE a_SIGNED_CRYPTOGRAM a_PRIVATE_KEY) ∧ L = [] ∧ h = h0) := by
  refine own_body (plainFor_of_name pn_1) (fun m => ef_1 m x0) ?_
  intro p e s m below meth c s₁ X0 hx hby hml hown hnm hret hlk hZ e0
  replace hown : s.vm.findClass "com/example/lemniscate/lemniscate/crypto/FileKindFindPinLaw" = some m.cls := hown
  replace hml : c.maxLocals = 1 := hml
  show Ends p.tables e below _ (s₁.setTop (mkF m 0 #[.val (.int x0)] []))
  refine own_iloadN X0 hx hby d1_0 rfl rfl ?_
  refine own_iconst X0 hx hby d1_1 rfl (1 : Int32) rfl ?_
  refine own_icmp_ne X0 hx hby d1_2 (pcY := 9) (pcN := 5) (by decide) rfl (fun (hc4 : ¬ x0 = (1 : Int32)) => ?_) (fun (hc4 : x0 = (1 : Int32)) => ?_)
  · -- pc 2: t
    refine own_iloadN X0 hx hby d1_9 rfl rfl ?_
    refine own_iconst X0 hx hby d1_10 rfl (2 : Int32) rfl ?_
    refine own_icmp_ne X0 hx hby d1_11 (pcY := 18) (pcN := 14) (by decide) rfl (fun (hc5 : ¬ x0 = (2 : Int32)) => ?_) (fun (hc5 : x0 = (2 : Int32)) => ?_)
    · -- pc 11: t
      refine own_iloadN X0 hx hby d1_18 rfl rfl ?_
      refine own_iconst X0 hx hby d1_19 rfl (3 : Int32) rfl ?_
      refine own_icmp_ne X0 hx hby d1_20 (pcY := 27) (pcN := 23) (by decide) rfl (fun (hc6 : ¬ x0 = (3 : Int32)) => ?_) (fun (hc6 : x0 = (3 : Int32)) => ?_)
      · -- pc 20: t
        refine own_iloadN X0 hx hby d1_27 rfl rfl ?_
        refine own_iconst X0 hx hby d1_28 rfl (4 : Int32) rfl ?_
        refine own_icmp_ne X0 hx hby d1_29 (pcY := 36) (pcN := 32) (by decide) rfl (fun (hc7 : ¬ x0 = (4 : Int32)) => ?_) (fun (hc7 : x0 = (4 : Int32)) => ?_)
        · -- pc 29: t
          refine own_iloadN X0 hx hby d1_36 rfl rfl ?_
          refine own_iconst X0 hx hby d1_37 rfl (5 : Int32) rfl ?_
          refine own_icmp_ne X0 hx hby d1_38 (pcY := 45) (pcN := 41) (by decide) rfl (fun (hc8 : ¬ x0 = (5 : Int32)) => ?_) (fun (hc8 : x0 = (5 : Int32)) => ?_)
          · -- pc 38: t
            refine own_iloadN X0 hx hby d1_45 rfl rfl ?_
            refine own_bipush X0 hx hby d1_46 rfl (6 : Int32) rfl ?_
            refine own_icmp_ne X0 hx hby d1_48 (pcY := 55) (pcN := 51) (by decide) rfl (fun (hc9 : ¬ x0 = (6 : Int32)) => ?_) (fun (hc9 : x0 = (6 : Int32)) => ?_)
            · -- pc 48: t
              refine own_aconstNull X0 hx hby d1_55 rfl ?_
              refine own_ret X0 hx hby hret hlk d1_56 .null rfl (Or.inr (Or.inr ⟨rfl, rfl, rfl⟩)) (by decide) (by decide) ?_
              refine ⟨?_, rfl, e0⟩
              simp [own_kind, hc4, hc5, hc6, hc7, hc8, hc9]
            · -- pc 48: f
              refine own_getstatic X0 hx hby hZ hown (host := "") (Or.inl (hw _ tw_34)) Via.refl e0 ((g_S_PRIVATE_KEY G).ext O) d1_51 rfl (fun T10 X10 e10 => ?_)
              refine own_ret X10 hx hby hret hlk d1_54 (.ref a_PRIVATE_KEY) rfl (Or.inr (Or.inr ⟨rfl, rfl, rfl⟩)) (by decide) (by decide) ?_
              refine ⟨?_, rfl, e10⟩
              simp [own_kind, hc4, hc5, hc6, hc7, hc8, hc9]
          · -- pc 38: f
            refine own_getstatic X0 hx hby hZ hown (host := "") (Or.inl (hw _ tw_35)) Via.refl e0 ((g_S_SIGNED_CRYPTOGRAM G).ext O) d1_41 rfl (fun T11 X11 e11 => ?_)
            refine own_ret X11 hx hby hret hlk d1_44 (.ref a_SIGNED_CRYPTOGRAM) rfl (Or.inr (Or.inr ⟨rfl, rfl, rfl⟩)) (by decide) (by decide) ?_
            refine ⟨?_, rfl, e11⟩
            simp [own_kind, hc4, hc5, hc6, hc7, hc8]
        · -- pc 29: f
          refine own_getstatic X0 hx hby hZ hown (host := "") (Or.inl (hw _ tw_36)) Via.refl e0 ((g_S_SIGNATURE G).ext O) d1_32 rfl (fun T12 X12 e12 => ?_)
          refine own_ret X12 hx hby hret hlk d1_35 (.ref a_SIGNATURE) rfl (Or.inr (Or.inr ⟨rfl, rfl, rfl⟩)) (by decide) (by decide) ?_
          refine ⟨?_, rfl, e12⟩
          simp [own_kind, hc4, hc5, hc6, hc7]
      · -- pc 20: f
        refine own_getstatic X0 hx hby hZ hown (host := "") (Or.inl (hw _ tw_31)) Via.refl e0 ((g_S_PUBLIC_KEY_CRYPTOGRAM G).ext O) d1_23 rfl (fun T13 X13 e13 => ?_)
        refine own_ret X13 hx hby hret hlk d1_26 (.ref a_PUBLIC_KEY_CRYPTOGRAM) rfl (Or.inr (Or.inr ⟨rfl, rfl, rfl⟩)) (by decide) (by decide) ?_
        refine ⟨?_, rfl, e13⟩
        simp [own_kind, hc4, hc5, hc6]
    · -- pc 11: f
      refine own_getstatic X0 hx hby hZ hown (host := "") (Or.inl (hw _ tw_32)) Via.refl e0 ((g_S_PASSPHRASE_CRYPTOGRAM G).ext O) d1_14 rfl (fun T14 X14 e14 => ?_)
      refine own_ret X14 hx hby hret hlk d1_17 (.ref a_PASSPHRASE_CRYPTOGRAM) rfl (Or.inr (Or.inr ⟨rfl, rfl, rfl⟩)) (by decide) (by decide) ?_
      refine ⟨?_, rfl, e14⟩
      simp [own_kind, hc4, hc5]
  · -- pc 2: f
    refine own_getstatic X0 hx hby hZ hown (host := "") (Or.inl (hw _ tw_33)) Via.refl e0 ((g_S_PUBLIC_KEY G).ext O) d1_5 rfl (fun T15 X15 e15 => ?_)
    refine own_ret X15 hx hby hret hlk d1_8 (.ref a_PUBLIC_KEY) rfl (Or.inr (Or.inr ⟨rfl, rfl, rfl⟩)) (by decide) (by decide) ?_
    refine ⟨?_, rfl, e15⟩
    simp [own_kind, hc4]
set_option maxRecDepth 65536 in
set_option maxHeartbeats 40000000 in
theorem rm2 (l : Launch) (Z : State) (a0 : Array Value) (hw : ∀ d ∈ tables_1, d.before a0 Z = true) (x0 : Int32) (h0 : Heap) {a__VALUES a_PUBLIC_KEY a_PASSPHRASE_CRYPTOGRAM a_PUBLIC_KEY_CRYPTOGRAM a_SIGNATURE a_SIGNED_CRYPTOGRAM a_PRIVATE_KEY : Addr} (G : OwnG Z a__VALUES a_PUBLIC_KEY a_PASSPHRASE_CRYPTOGRAM a_PUBLIC_KEY_CRYPTOGRAM a_SIGNATURE a_SIGNED_CRYPTOGRAM a_PRIVATE_KEY) (O : Ext Z.heap h0) :
    OwnMet l Z (⟨"com/example/lemniscate/lemniscate/crypto/FileKind", "find", "(B)Lcom/example/lemniscate/lemniscate/crypto/FileKind;"⟩ : MethodName) prog_31_method_8_code 5 (some (.object "com/example/lemniscate/lemniscate/crypto/FileKind")) [] ({ frames := 2, cells := 1, slots := 6, locals := 25 } : Room) #[(.int x0)] h0 (fun v h L => v = some (own_kind x0 a_PUBLIC_KEY a_PASSPHRASE_CRYPTOGRAM a_PUBLIC_KEY_CRYPTOGRAM a_SIGNATURE a_SIGNED_CRYPTOGRAM a_PRIVATE_KEY) ∧ L = [] ∧ Ext h0 h) := by
  refine own_body (plainFor_of_name pn_0) (fun m => ef_2 m x0) ?_
  intro p e s m below meth c s₁ X0 hx hby hml hown hnm hret hlk hZ e0
  replace hown : s.vm.findClass "com/example/lemniscate/lemniscate/crypto/FileKind" = some m.cls := hown
  replace hml : c.maxLocals = 5 := hml
  show Ends p.tables e below _ (s₁.setTop (mkF m 0 #[.val (.int x0), .unset, .unset, .unset, .unset] []))
  refine own_static X0 hx hby hZ (argsL := []) (rest := []) hown (hw _ tw_8) (hw _ tw_9) (hw _ tw_6) (hw _ tw_10) (by decide) (rm3 l Z a0 hw h0 G O) e0 (by rw [hml]; rfl) pd_0 rfl (by decide) (W := 0) (Nat.le_refl _) (by decide) (by decide) (by decide) d2_0 rfl rfl (fun v16 T16 L16 X16 hQ16 => ?_)
  obtain ⟨b16, k16, rfl, rfl, E16, g16, V16⟩ := hQ16
  show Ends p.tables e below _ (T16.setTop (mkF m 3 #[.val (.int x0), .unset, .unset, .unset, .unset] [(.ref b16)]))
  refine own_astoreN X16 hx hby d2_3 rfl #[.val (.int x0), .val (.ref b16), .unset, .unset, .unset] rfl rfl ?_
  refine own_aloadN X16 hx hby d2_4 rfl rfl rfl ?_
  refine own_arraylength X16 hx hby hZ rfl V16 d2_5 rfl ?_
  refine own_istoreN X16 hx hby d2_6 rfl #[.val (.int x0), .val (.ref b16), .val (.int (6 : Int32)), .unset, .unset] rfl ?_
  refine own_iconst X16 hx hby d2_7 rfl (0 : Int32) rfl ?_
  refine own_istoreN X16 hx hby d2_8 rfl #[.val (.int x0), .val (.ref b16), .val (.int (6 : Int32)), .val (.int (0 : Int32)), .unset] rfl ?_
  refine own_iloadN X16 hx hby d2_9 rfl rfl ?_
  refine own_iloadN X16 hx hby d2_10 rfl rfl ?_
  refine own_icmp_ge X16 hx hby d2_11 (pcY := 37) (pcN := 14) (by decide) rfl (fun (hc17 : 6 ≤ 0) => False.elim (by exact absurd hc17 (by decide))) (fun (hc17 : 0 < 6) => ?_)
  refine own_aloadN X16 hx hby d2_14 rfl rfl rfl ?_
  refine own_iloadN X16 hx hby d2_15 rfl rfl ?_
  refine own_aaload X16 hx hby hZ (.ref a_PUBLIC_KEY) rfl rfl V16 (by decide) rfl d2_16 rfl ?_
  refine own_astore X16 hx hby d2_17 rfl #[.val (.int x0), .val (.ref b16), .val (.int (6 : Int32)), .val (.int (0 : Int32)), .val (.ref a_PUBLIC_KEY)] rfl rfl ?_
  refine own_aload X16 hx hby d2_19 rfl rfl rfl ?_
  have f18 := (own_ext O E16)
  refine own_getfield X16 hx hby hZ hown (host := "") (Or.inl (hw _ tw_29)) Via.refl rfl ((g_F_PUBLIC_KEY_code G).ext f18) d2_21 rfl (fun T19 X19 e19 => ?_)
  refine own_iloadN X19 hx hby d2_24 rfl rfl ?_
  refine own_icmp_ne X19 hx hby d2_25 (pcY := 31) (pcN := 28) (by decide) rfl (fun (hc20 : ¬ (1 : Int32) = x0) => ?_) (fun (hc20 : (1 : Int32) = x0) => ?_)
  · -- pc 25: t
    have hc20' := fun q => hc20 (Eq.symm q)
    refine own_iinc X19 hx hby d2_31 rfl (1 : Int32) rfl #[.val (.int x0), .val (.ref b16), .val (.int (6 : Int32)), .val (.int (1 : Int32)), .val (.ref a_PUBLIC_KEY)] rfl rfl ?_
    refine own_goto X19 hx hby d2_34 (pc' := 9) (by decide) ?_
    refine own_iloadN X19 hx hby d2_9 rfl rfl ?_
    refine own_iloadN X19 hx hby d2_10 rfl rfl ?_
    refine own_icmp_ge X19 hx hby d2_11 (pcY := 37) (pcN := 14) (by decide) rfl (fun (hc21 : 6 ≤ 1) => False.elim (by exact absurd hc21 (by decide))) (fun (hc21 : 1 < 6) => ?_)
    refine own_aloadN X19 hx hby d2_14 rfl rfl rfl ?_
    refine own_iloadN X19 hx hby d2_15 rfl rfl ?_
    refine own_aaload X19 hx hby hZ (.ref a_PASSPHRASE_CRYPTOGRAM) rfl e19 V16 (by decide) rfl d2_16 rfl ?_
    refine own_astore X19 hx hby d2_17 rfl #[.val (.int x0), .val (.ref b16), .val (.int (6 : Int32)), .val (.int (1 : Int32)), .val (.ref a_PASSPHRASE_CRYPTOGRAM)] rfl rfl ?_
    refine own_aload X19 hx hby d2_19 rfl rfl rfl ?_
    refine own_getfield X19 hx hby hZ hown (host := "") (Or.inl (hw _ tw_29)) Via.refl e19 ((g_F_PASSPHRASE_CRYPTOGRAM_code G).ext f18) d2_21 rfl (fun T22 X22 e22 => ?_)
    refine own_iloadN X22 hx hby d2_24 rfl rfl ?_
    refine own_icmp_ne X22 hx hby d2_25 (pcY := 31) (pcN := 28) (by decide) rfl (fun (hc23 : ¬ (2 : Int32) = x0) => ?_) (fun (hc23 : (2 : Int32) = x0) => ?_)
    · -- pc 25: t
      have hc23' := fun q => hc23 (Eq.symm q)
      refine own_iinc X22 hx hby d2_31 rfl (1 : Int32) rfl #[.val (.int x0), .val (.ref b16), .val (.int (6 : Int32)), .val (.int (2 : Int32)), .val (.ref a_PASSPHRASE_CRYPTOGRAM)] rfl rfl ?_
      refine own_goto X22 hx hby d2_34 (pc' := 9) (by decide) ?_
      refine own_iloadN X22 hx hby d2_9 rfl rfl ?_
      refine own_iloadN X22 hx hby d2_10 rfl rfl ?_
      refine own_icmp_ge X22 hx hby d2_11 (pcY := 37) (pcN := 14) (by decide) rfl (fun (hc24 : 6 ≤ 2) => False.elim (by exact absurd hc24 (by decide))) (fun (hc24 : 2 < 6) => ?_)
      refine own_aloadN X22 hx hby d2_14 rfl rfl rfl ?_
      refine own_iloadN X22 hx hby d2_15 rfl rfl ?_
      refine own_aaload X22 hx hby hZ (.ref a_PUBLIC_KEY_CRYPTOGRAM) rfl e22 V16 (by decide) rfl d2_16 rfl ?_
      refine own_astore X22 hx hby d2_17 rfl #[.val (.int x0), .val (.ref b16), .val (.int (6 : Int32)), .val (.int (2 : Int32)), .val (.ref a_PUBLIC_KEY_CRYPTOGRAM)] rfl rfl ?_
      refine own_aload X22 hx hby d2_19 rfl rfl rfl ?_
      refine own_getfield X22 hx hby hZ hown (host := "") (Or.inl (hw _ tw_29)) Via.refl e22 ((g_F_PUBLIC_KEY_CRYPTOGRAM_code G).ext f18) d2_21 rfl (fun T25 X25 e25 => ?_)
      refine own_iloadN X25 hx hby d2_24 rfl rfl ?_
      refine own_icmp_ne X25 hx hby d2_25 (pcY := 31) (pcN := 28) (by decide) rfl (fun (hc26 : ¬ (3 : Int32) = x0) => ?_) (fun (hc26 : (3 : Int32) = x0) => ?_)
      · -- pc 25: t
        have hc26' := fun q => hc26 (Eq.symm q)
        refine own_iinc X25 hx hby d2_31 rfl (1 : Int32) rfl #[.val (.int x0), .val (.ref b16), .val (.int (6 : Int32)), .val (.int (3 : Int32)), .val (.ref a_PUBLIC_KEY_CRYPTOGRAM)] rfl rfl ?_
        refine own_goto X25 hx hby d2_34 (pc' := 9) (by decide) ?_
        refine own_iloadN X25 hx hby d2_9 rfl rfl ?_
        refine own_iloadN X25 hx hby d2_10 rfl rfl ?_
        refine own_icmp_ge X25 hx hby d2_11 (pcY := 37) (pcN := 14) (by decide) rfl (fun (hc27 : 6 ≤ 3) => False.elim (by exact absurd hc27 (by decide))) (fun (hc27 : 3 < 6) => ?_)
        refine own_aloadN X25 hx hby d2_14 rfl rfl rfl ?_
        refine own_iloadN X25 hx hby d2_15 rfl rfl ?_
        refine own_aaload X25 hx hby hZ (.ref a_SIGNATURE) rfl e25 V16 (by decide) rfl d2_16 rfl ?_
        refine own_astore X25 hx hby d2_17 rfl #[.val (.int x0), .val (.ref b16), .val (.int (6 : Int32)), .val (.int (3 : Int32)), .val (.ref a_SIGNATURE)] rfl rfl ?_
        refine own_aload X25 hx hby d2_19 rfl rfl rfl ?_
        refine own_getfield X25 hx hby hZ hown (host := "") (Or.inl (hw _ tw_29)) Via.refl e25 ((g_F_SIGNATURE_code G).ext f18) d2_21 rfl (fun T28 X28 e28 => ?_)
        refine own_iloadN X28 hx hby d2_24 rfl rfl ?_
        refine own_icmp_ne X28 hx hby d2_25 (pcY := 31) (pcN := 28) (by decide) rfl (fun (hc29 : ¬ (4 : Int32) = x0) => ?_) (fun (hc29 : (4 : Int32) = x0) => ?_)
        · -- pc 25: t
          have hc29' := fun q => hc29 (Eq.symm q)
          refine own_iinc X28 hx hby d2_31 rfl (1 : Int32) rfl #[.val (.int x0), .val (.ref b16), .val (.int (6 : Int32)), .val (.int (4 : Int32)), .val (.ref a_SIGNATURE)] rfl rfl ?_
          refine own_goto X28 hx hby d2_34 (pc' := 9) (by decide) ?_
          refine own_iloadN X28 hx hby d2_9 rfl rfl ?_
          refine own_iloadN X28 hx hby d2_10 rfl rfl ?_
          refine own_icmp_ge X28 hx hby d2_11 (pcY := 37) (pcN := 14) (by decide) rfl (fun (hc30 : 6 ≤ 4) => False.elim (by exact absurd hc30 (by decide))) (fun (hc30 : 4 < 6) => ?_)
          refine own_aloadN X28 hx hby d2_14 rfl rfl rfl ?_
          refine own_iloadN X28 hx hby d2_15 rfl rfl ?_
          refine own_aaload X28 hx hby hZ (.ref a_SIGNED_CRYPTOGRAM) rfl e28 V16 (by decide) rfl d2_16 rfl ?_
          refine own_astore X28 hx hby d2_17 rfl #[.val (.int x0), .val (.ref b16), .val (.int (6 : Int32)), .val (.int (4 : Int32)), .val (.ref a_SIGNED_CRYPTOGRAM)] rfl rfl ?_
          refine own_aload X28 hx hby d2_19 rfl rfl rfl ?_
          refine own_getfield X28 hx hby hZ hown (host := "") (Or.inl (hw _ tw_29)) Via.refl e28 ((g_F_SIGNED_CRYPTOGRAM_code G).ext f18) d2_21 rfl (fun T31 X31 e31 => ?_)
          refine own_iloadN X31 hx hby d2_24 rfl rfl ?_
          refine own_icmp_ne X31 hx hby d2_25 (pcY := 31) (pcN := 28) (by decide) rfl (fun (hc32 : ¬ (5 : Int32) = x0) => ?_) (fun (hc32 : (5 : Int32) = x0) => ?_)
          · -- pc 25: t
            have hc32' := fun q => hc32 (Eq.symm q)
            refine own_iinc X31 hx hby d2_31 rfl (1 : Int32) rfl #[.val (.int x0), .val (.ref b16), .val (.int (6 : Int32)), .val (.int (5 : Int32)), .val (.ref a_SIGNED_CRYPTOGRAM)] rfl rfl ?_
            refine own_goto X31 hx hby d2_34 (pc' := 9) (by decide) ?_
            refine own_iloadN X31 hx hby d2_9 rfl rfl ?_
            refine own_iloadN X31 hx hby d2_10 rfl rfl ?_
            refine own_icmp_ge X31 hx hby d2_11 (pcY := 37) (pcN := 14) (by decide) rfl (fun (hc33 : 6 ≤ 5) => False.elim (by exact absurd hc33 (by decide))) (fun (hc33 : 5 < 6) => ?_)
            refine own_aloadN X31 hx hby d2_14 rfl rfl rfl ?_
            refine own_iloadN X31 hx hby d2_15 rfl rfl ?_
            refine own_aaload X31 hx hby hZ (.ref a_PRIVATE_KEY) rfl e31 V16 (by decide) rfl d2_16 rfl ?_
            refine own_astore X31 hx hby d2_17 rfl #[.val (.int x0), .val (.ref b16), .val (.int (6 : Int32)), .val (.int (5 : Int32)), .val (.ref a_PRIVATE_KEY)] rfl rfl ?_
            refine own_aload X31 hx hby d2_19 rfl rfl rfl ?_
            refine own_getfield X31 hx hby hZ hown (host := "") (Or.inl (hw _ tw_29)) Via.refl e31 ((g_F_PRIVATE_KEY_code G).ext f18) d2_21 rfl (fun T34 X34 e34 => ?_)
            refine own_iloadN X34 hx hby d2_24 rfl rfl ?_
            refine own_icmp_ne X34 hx hby d2_25 (pcY := 31) (pcN := 28) (by decide) rfl (fun (hc35 : ¬ (6 : Int32) = x0) => ?_) (fun (hc35 : (6 : Int32) = x0) => ?_)
            · -- pc 25: t
              have hc35' := fun q => hc35 (Eq.symm q)
              refine own_iinc X34 hx hby d2_31 rfl (1 : Int32) rfl #[.val (.int x0), .val (.ref b16), .val (.int (6 : Int32)), .val (.int (6 : Int32)), .val (.ref a_PRIVATE_KEY)] rfl rfl ?_
              refine own_goto X34 hx hby d2_34 (pc' := 9) (by decide) ?_
              refine own_iloadN X34 hx hby d2_9 rfl rfl ?_
              refine own_iloadN X34 hx hby d2_10 rfl rfl ?_
              refine own_icmp_ge X34 hx hby d2_11 (pcY := 37) (pcN := 14) (by decide) rfl (fun (hc36 : 6 ≤ 6) => ?_) (fun (hc36 : 6 < 6) => False.elim (by exact absurd hc36 (by decide)))
              refine own_aconstNull X34 hx hby d2_37 rfl ?_
              refine own_ret X34 hx hby hret hlk d2_38 .null rfl (Or.inr (Or.inr ⟨rfl, rfl, rfl⟩)) (by decide) (by decide) ?_
              rw [e34]
              refine ⟨?_, rfl, E16⟩
              rw [own_kind, if_neg hc20', if_neg hc23', if_neg hc26', if_neg hc29', if_neg hc32', if_neg hc35']
            · -- pc 25: f
              have hc35' := hc35.symm
              refine own_aload X34 hx hby d2_28 rfl rfl rfl ?_
              refine own_ret X34 hx hby hret hlk d2_30 (.ref a_PRIVATE_KEY) rfl (Or.inr (Or.inr ⟨rfl, rfl, rfl⟩)) (by decide) (by decide) ?_
              rw [e34]
              refine ⟨?_, rfl, E16⟩
              rw [own_kind, if_neg hc20', if_neg hc23', if_neg hc26', if_neg hc29', if_neg hc32', if_pos hc35']
          · -- pc 25: f
            have hc32' := hc32.symm
            refine own_aload X31 hx hby d2_28 rfl rfl rfl ?_
            refine own_ret X31 hx hby hret hlk d2_30 (.ref a_SIGNED_CRYPTOGRAM) rfl (Or.inr (Or.inr ⟨rfl, rfl, rfl⟩)) (by decide) (by decide) ?_
            rw [e31]
            refine ⟨?_, rfl, E16⟩
            rw [own_kind, if_neg hc20', if_neg hc23', if_neg hc26', if_neg hc29', if_pos hc32']
        · -- pc 25: f
          have hc29' := hc29.symm
          refine own_aload X28 hx hby d2_28 rfl rfl rfl ?_
          refine own_ret X28 hx hby hret hlk d2_30 (.ref a_SIGNATURE) rfl (Or.inr (Or.inr ⟨rfl, rfl, rfl⟩)) (by decide) (by decide) ?_
          rw [e28]
          refine ⟨?_, rfl, E16⟩
          rw [own_kind, if_neg hc20', if_neg hc23', if_neg hc26', if_pos hc29']
      · -- pc 25: f
        have hc26' := hc26.symm
        refine own_aload X25 hx hby d2_28 rfl rfl rfl ?_
        refine own_ret X25 hx hby hret hlk d2_30 (.ref a_PUBLIC_KEY_CRYPTOGRAM) rfl (Or.inr (Or.inr ⟨rfl, rfl, rfl⟩)) (by decide) (by decide) ?_
        rw [e25]
        refine ⟨?_, rfl, E16⟩
        rw [own_kind, if_neg hc20', if_neg hc23', if_pos hc26']
    · -- pc 25: f
      have hc23' := hc23.symm
      refine own_aload X22 hx hby d2_28 rfl rfl rfl ?_
      refine own_ret X22 hx hby hret hlk d2_30 (.ref a_PASSPHRASE_CRYPTOGRAM) rfl (Or.inr (Or.inr ⟨rfl, rfl, rfl⟩)) (by decide) (by decide) ?_
      rw [e22]
      refine ⟨?_, rfl, E16⟩
      rw [own_kind, if_neg hc20', if_pos hc23']
  · -- pc 25: f
    have hc20' := hc20.symm
    refine own_aload X19 hx hby d2_28 rfl rfl rfl ?_
    refine own_ret X19 hx hby hret hlk d2_30 (.ref a_PUBLIC_KEY) rfl (Or.inr (Or.inr ⟨rfl, rfl, rfl⟩)) (by decide) (by decide) ?_
    rw [e19]
    refine ⟨?_, rfl, E16⟩
    rw [own_kind, if_pos hc20']
set_option maxRecDepth 65536 in
set_option maxHeartbeats 40000000 in
theorem rm0 (l : Launch) (Z : State) (a0 : Array Value) (hw : ∀ d ∈ tables_1, d.before a0 Z = true) (x0 : Int32) (h0 : Heap) (n0 : Nat) {a__VALUES a_PUBLIC_KEY a_PASSPHRASE_CRYPTOGRAM a_PUBLIC_KEY_CRYPTOGRAM a_SIGNATURE a_SIGNED_CRYPTOGRAM a_PRIVATE_KEY : Addr} (G : OwnG Z a__VALUES a_PUBLIC_KEY a_PASSPHRASE_CRYPTOGRAM a_PUBLIC_KEY_CRYPTOGRAM a_SIGNATURE a_SIGNED_CRYPTOGRAM a_PRIVATE_KEY) (O : Ext Z.heap h0) :
    OwnMet l Z x code maxLocals ret tables_1 room_1 #[(.int x0)] h0 (fun v h L => v = some (.int 1) ∧ Fr n0 L) := by
  refine own_body (plainFor_of_name pn_1) (fun m => ef_0 m x0) ?_
  intro p e s m below meth c s₁ X0 hx hby hml hown hnm hret hlk hZ e0
  replace hown : s.vm.findClass "com/example/lemniscate/lemniscate/crypto/FileKindFindPinLaw" = some m.cls := hown
  replace hml : c.maxLocals = 4 := hml
  have N0 := Fr.nil n0
  show Ends p.tables e below _ (s₁.setTop (mkF m 0 #[.val (.int x0), .unset, .unset, .unset] []))
  refine own_iloadN X0 hx hby at_0 rfl rfl ?_
  refine own_i2b X0 hx hby at_1 rfl ?_
  refine own_istoreN X0 hx hby at_2 rfl #[.val (.int x0), .val (.int x0.toInt8.toInt32), .unset, .unset] rfl ?_
  refine own_iloadN X0 hx hby at_3 rfl rfl ?_
  refine own_static X0 hx hby hZ (argsL := [(.int x0.toInt8.toInt32)]) (rest := []) hown (hw _ tw_0) (hw _ tw_1) (hw _ tw_2) (hw _ tw_3) (by decide) (rm1 l Z a0 hw x0.toInt8.toInt32 h0 G O) e0 (by rw [hml]; rfl) pd_1 rfl (by decide) (W := 0) (Nat.le_refl _) (by decide) (by decide) (by decide) at_4 rfl rfl (fun v37 T37 L37 X37 hQ37 => ?_)
  obtain ⟨rfl, rfl, e37⟩ := hQ37
  show Ends p.tables e below _ (T37.setTop (mkF m 7 #[.val (.int x0), .val (.int x0.toInt8.toInt32), .unset, .unset] [(own_kind x0.toInt8.toInt32 a_PUBLIC_KEY a_PASSPHRASE_CRYPTOGRAM a_PUBLIC_KEY_CRYPTOGRAM a_SIGNATURE a_SIGNED_CRYPTOGRAM a_PRIVATE_KEY)]))
  refine own_astoreN X37 hx hby at_7 rfl #[.val (.int x0), .val (.int x0.toInt8.toInt32), .val (own_kind x0.toInt8.toInt32 a_PUBLIC_KEY a_PASSPHRASE_CRYPTOGRAM a_PUBLIC_KEY_CRYPTOGRAM a_SIGNATURE a_SIGNED_CRYPTOGRAM a_PRIVATE_KEY), .unset] (own_kind_ref _ a_PUBLIC_KEY a_PASSPHRASE_CRYPTOGRAM a_PUBLIC_KEY_CRYPTOGRAM a_SIGNATURE a_SIGNED_CRYPTOGRAM a_PRIVATE_KEY) (Jvm.Free.XS.store1 rfl (Or.inl rfl) (Jvm.Free.XT.cat1 (own_kind_ref _ a_PUBLIC_KEY a_PASSPHRASE_CRYPTOGRAM a_PUBLIC_KEY_CRYPTOGRAM a_SIGNATURE a_SIGNED_CRYPTOGRAM a_PRIVATE_KEY))) ?_
  refine own_iloadN X37 hx hby at_8 rfl rfl ?_
  refine own_static X37 hx hby hZ (argsL := [(.int x0.toInt8.toInt32)]) (rest := []) hown (hw _ tw_4) (hw _ tw_5) (hw _ tw_6) (hw _ tw_7) (by decide) (rm2 l Z a0 hw x0.toInt8.toInt32 h0 G O) e37 (by rw [hml]; rfl) pd_1 rfl (by decide) (W := 0) (Nat.le_refl _) (by decide) (by decide) (by decide) at_9 rfl rfl (fun v38 T38 L38 X38 hQ38 => ?_)
  obtain ⟨rfl, rfl, E38⟩ := hQ38
  show Ends p.tables e below _ (T38.setTop (mkF m 12 #[.val (.int x0), .val (.int x0.toInt8.toInt32), .val (own_kind x0.toInt8.toInt32 a_PUBLIC_KEY a_PASSPHRASE_CRYPTOGRAM a_PUBLIC_KEY_CRYPTOGRAM a_SIGNATURE a_SIGNED_CRYPTOGRAM a_PRIVATE_KEY), .unset] [(own_kind x0.toInt8.toInt32 a_PUBLIC_KEY a_PASSPHRASE_CRYPTOGRAM a_PUBLIC_KEY_CRYPTOGRAM a_SIGNATURE a_SIGNED_CRYPTOGRAM a_PRIVATE_KEY)]))
  refine own_astoreN X38 hx hby at_12 rfl #[.val (.int x0), .val (.int x0.toInt8.toInt32), .val (own_kind x0.toInt8.toInt32 a_PUBLIC_KEY a_PASSPHRASE_CRYPTOGRAM a_PUBLIC_KEY_CRYPTOGRAM a_SIGNATURE a_SIGNED_CRYPTOGRAM a_PRIVATE_KEY), .val (own_kind x0.toInt8.toInt32 a_PUBLIC_KEY a_PASSPHRASE_CRYPTOGRAM a_PUBLIC_KEY_CRYPTOGRAM a_SIGNATURE a_SIGNED_CRYPTOGRAM a_PRIVATE_KEY)] (own_kind_ref _ a_PUBLIC_KEY a_PASSPHRASE_CRYPTOGRAM a_PUBLIC_KEY_CRYPTOGRAM a_SIGNATURE a_SIGNED_CRYPTOGRAM a_PRIVATE_KEY) (Jvm.Free.XS.store1 rfl (Or.inl rfl) (Jvm.Free.XT.cat1 (own_kind_ref _ a_PUBLIC_KEY a_PASSPHRASE_CRYPTOGRAM a_PUBLIC_KEY_CRYPTOGRAM a_SIGNATURE a_SIGNED_CRYPTOGRAM a_PRIVATE_KEY))) ?_
  refine own_aloadN X38 hx hby at_13 rfl rfl (own_kind_ref _ a_PUBLIC_KEY a_PASSPHRASE_CRYPTOGRAM a_PUBLIC_KEY_CRYPTOGRAM a_SIGNATURE a_SIGNED_CRYPTOGRAM a_PRIVATE_KEY) ?_
  refine own_aloadN X38 hx hby at_14 rfl rfl (own_kind_ref _ a_PUBLIC_KEY a_PASSPHRASE_CRYPTOGRAM a_PUBLIC_KEY_CRYPTOGRAM a_SIGNATURE a_SIGNED_CRYPTOGRAM a_PRIVATE_KEY) ?_
  refine own_acmp_ne X38 hx hby at_15 (pcY := 22) (pcN := 18) (by decide) rfl (own_kind_ref _ a_PUBLIC_KEY a_PASSPHRASE_CRYPTOGRAM a_PUBLIC_KEY_CRYPTOGRAM a_SIGNATURE a_SIGNED_CRYPTOGRAM a_PRIVATE_KEY) (own_kind_ref _ a_PUBLIC_KEY a_PASSPHRASE_CRYPTOGRAM a_PUBLIC_KEY_CRYPTOGRAM a_SIGNATURE a_SIGNED_CRYPTOGRAM a_PRIVATE_KEY) (fun (hc39 : ¬ ((own_kind x0.toInt8.toInt32 a_PUBLIC_KEY a_PASSPHRASE_CRYPTOGRAM a_PUBLIC_KEY_CRYPTOGRAM a_SIGNATURE a_SIGNED_CRYPTOGRAM a_PRIVATE_KEY) : Value) = (own_kind x0.toInt8.toInt32 a_PUBLIC_KEY a_PASSPHRASE_CRYPTOGRAM a_PUBLIC_KEY_CRYPTOGRAM a_SIGNATURE a_SIGNED_CRYPTOGRAM a_PRIVATE_KEY)) => False.elim (by exact hc39 rfl)) (fun (hc39 : ((own_kind x0.toInt8.toInt32 a_PUBLIC_KEY a_PASSPHRASE_CRYPTOGRAM a_PUBLIC_KEY_CRYPTOGRAM a_SIGNATURE a_SIGNED_CRYPTOGRAM a_PRIVATE_KEY) : Value) = (own_kind x0.toInt8.toInt32 a_PUBLIC_KEY a_PASSPHRASE_CRYPTOGRAM a_PUBLIC_KEY_CRYPTOGRAM a_SIGNATURE a_SIGNED_CRYPTOGRAM a_PRIVATE_KEY)) => ?_)
  refine own_iconst X38 hx hby at_18 rfl (1 : Int32) rfl ?_
  refine own_goto X38 hx hby at_19 (pc' := 23) (by decide) ?_
  refine own_ret X38 hx hby hret hlk at_23 (.int (1 : Int32)) rfl (Or.inl ⟨rfl, by simp, _, rfl⟩) (by decide) (by decide) ?_
  exact ⟨rfl, (Fr.app (Fr.app N0 (Fr.nil _)) (Fr.nil _))⟩
set_option maxRecDepth 65536 in
set_option maxHeartbeats 40000000 in
theorem comes_1 {Post : Tables → Env → Array Value → State → Outcome → State → Prop} (hpost : ∀ tb e args s v u, (limb_1_1.after args s (.returned v) u = true ∧ limb_1_2.after args s (.returned v) u = true ∧ True) → FrameEnd s (.returned v) u (Jvm.fieldLocs frame_1_writes args s ++ Jvm.arrayLocs frame_1_arrays args s ++ Jvm.staticLocs frame_1_statics s) 16 128 → Post tb e args s (.returned v) u) :
    ArmFor flags0 classFile x code maxLocals ret World_1 tables_1 room_1 Calls_1 rest_1 Pre_1 Post := by
  intro l hfl _ _ p e ha hc hk s m args below hf hA hF happ hP
  obtain ⟨hcalls, hrest, hpre⟩ := hP
  obtain ⟨-, -, -, hnamed, -, -, -, hat⟩ := (Spec.applies_iff hf).mp happ
  obtain ⟨hg, hn⟩ := and_e (Cond.before_iff.mp (show (Jvm.Cond.and given_1 narrow_1).before args s = true from hpre))
  obtain ⟨hcount, hg0⟩ := and_e hg
  have hv0 := hg0
  obtain ⟨w0, rfl⟩ : ∃ w0 : Value, args = #[w0] := by
    have hs : args.size = 1 := by simpa [Cond.value, given_1] using hcount
    obtain ⟨L⟩ := args
    match L, hs with
    | [w0], _ => exact ⟨w0, rfl⟩
  have hw := fun d (hd : d ∈ tables_1) => atoms_spec (ws := Jvm.Cond.code x code maxLocals ret :: tables_1) hat d (List.mem_cons_of_mem _ hd)
  have hfit : Fit s := fun {y c} hc i hi => by
    obtain ⟨ha, rfl⟩ := Array.getElem?_eq_some_iff.mp hc
    have q := List.all_eq_true.mp ((Array.all_eq_true_iff_forall_mem.mp hF) _ (Array.getElem_mem ha)) i (List.mem_range.mpr hi)
    simpa [Array.getElem?_eq_getElem hi] using q
  obtain ⟨i0, ei0⟩ := is_v hv0
  obtain rfl : w0 = (.int i0) := Option.some.inj ei0
  obtain ⟨n0, hn0⟩ := and_e hn
  obtain ⟨n1, hn1⟩ := and_e hn0
  obtain ⟨n2, hn2⟩ := and_e hn1
  obtain ⟨n3, hn3⟩ := and_e hn2
  obtain ⟨n4, hn4⟩ := and_e hn3
  obtain ⟨n5, hn5⟩ := and_e hn4
  obtain ⟨n6, hn6⟩ := and_e hn5
  obtain ⟨n7, hn7⟩ := and_e hn6
  obtain ⟨n8, hn8⟩ := and_e hn7
  obtain ⟨n9, hn9⟩ := and_e hn8
  obtain ⟨n10, hn10⟩ := and_e hn9
  obtain ⟨n11, hn11⟩ := and_e hn10
  obtain ⟨n12, hn12⟩ := and_e hn11
  obtain ⟨n13, hn13⟩ := and_e hn12
  obtain ⟨n14, hn14⟩ := and_e hn13
  obtain ⟨n15, hn15⟩ := and_e hn14
  obtain ⟨n16, hn16⟩ := and_e hn15
  obtain ⟨n17, hn17⟩ := and_e hn16
  obtain ⟨n18, hn18⟩ := and_e hn17
  obtain ⟨n19, hn19⟩ := and_e hn18
  have n20 := hn19
  obtain ⟨a__VALUES, ev__VALUES⟩ := arr_v n0
  have S__VALUES : Sta s s.heap "com/example/lemniscate/lemniscate/crypto/FileKind" "$VALUES" "[Lcom/example/lemniscate/lemniscate/crypto/FileKind;" (.ref a__VALUES) := Sta.start ev__VALUES (Or.inr ⟨(hw _ tw_6), (hw _ tw_12)⟩)
  have E__VALUES : Exa s s.heap a__VALUES "[Lcom/example/lemniscate/lemniscate/crypto/FileKind;" := Exa.start ev__VALUES n1
  obtain ⟨a_PUBLIC_KEY, ev_PUBLIC_KEY⟩ := exa_v n3
  have S_PUBLIC_KEY : Sta s s.heap "com/example/lemniscate/lemniscate/crypto/FileKind" "PUBLIC_KEY" "Lcom/example/lemniscate/lemniscate/crypto/FileKind;" (.ref a_PUBLIC_KEY) := Sta.start ev_PUBLIC_KEY (Or.inr ⟨(hw _ tw_6), (hw _ tw_20)⟩)
  have E_PUBLIC_KEY : Exa s s.heap a_PUBLIC_KEY "com/example/lemniscate/lemniscate/crypto/FileKind" := Exa.start ev_PUBLIC_KEY n3
  obtain ⟨a_PASSPHRASE_CRYPTOGRAM, ev_PASSPHRASE_CRYPTOGRAM⟩ := exa_v n5
  have S_PASSPHRASE_CRYPTOGRAM : Sta s s.heap "com/example/lemniscate/lemniscate/crypto/FileKind" "PASSPHRASE_CRYPTOGRAM" "Lcom/example/lemniscate/lemniscate/crypto/FileKind;" (.ref a_PASSPHRASE_CRYPTOGRAM) := Sta.start ev_PASSPHRASE_CRYPTOGRAM (Or.inr ⟨(hw _ tw_6), (hw _ tw_21)⟩)
  have E_PASSPHRASE_CRYPTOGRAM : Exa s s.heap a_PASSPHRASE_CRYPTOGRAM "com/example/lemniscate/lemniscate/crypto/FileKind" := Exa.start ev_PASSPHRASE_CRYPTOGRAM n5
  obtain ⟨a_PUBLIC_KEY_CRYPTOGRAM, ev_PUBLIC_KEY_CRYPTOGRAM⟩ := exa_v n7
  have S_PUBLIC_KEY_CRYPTOGRAM : Sta s s.heap "com/example/lemniscate/lemniscate/crypto/FileKind" "PUBLIC_KEY_CRYPTOGRAM" "Lcom/example/lemniscate/lemniscate/crypto/FileKind;" (.ref a_PUBLIC_KEY_CRYPTOGRAM) := Sta.start ev_PUBLIC_KEY_CRYPTOGRAM (Or.inr ⟨(hw _ tw_6), (hw _ tw_22)⟩)
  have E_PUBLIC_KEY_CRYPTOGRAM : Exa s s.heap a_PUBLIC_KEY_CRYPTOGRAM "com/example/lemniscate/lemniscate/crypto/FileKind" := Exa.start ev_PUBLIC_KEY_CRYPTOGRAM n7
  obtain ⟨a_SIGNATURE, ev_SIGNATURE⟩ := exa_v n9
  have S_SIGNATURE : Sta s s.heap "com/example/lemniscate/lemniscate/crypto/FileKind" "SIGNATURE" "Lcom/example/lemniscate/lemniscate/crypto/FileKind;" (.ref a_SIGNATURE) := Sta.start ev_SIGNATURE (Or.inr ⟨(hw _ tw_6), (hw _ tw_23)⟩)
  have E_SIGNATURE : Exa s s.heap a_SIGNATURE "com/example/lemniscate/lemniscate/crypto/FileKind" := Exa.start ev_SIGNATURE n9
  obtain ⟨a_SIGNED_CRYPTOGRAM, ev_SIGNED_CRYPTOGRAM⟩ := exa_v n11
  have S_SIGNED_CRYPTOGRAM : Sta s s.heap "com/example/lemniscate/lemniscate/crypto/FileKind" "SIGNED_CRYPTOGRAM" "Lcom/example/lemniscate/lemniscate/crypto/FileKind;" (.ref a_SIGNED_CRYPTOGRAM) := Sta.start ev_SIGNED_CRYPTOGRAM (Or.inr ⟨(hw _ tw_6), (hw _ tw_24)⟩)
  have E_SIGNED_CRYPTOGRAM : Exa s s.heap a_SIGNED_CRYPTOGRAM "com/example/lemniscate/lemniscate/crypto/FileKind" := Exa.start ev_SIGNED_CRYPTOGRAM n11
  obtain ⟨a_PRIVATE_KEY, ev_PRIVATE_KEY⟩ := exa_v n13
  have S_PRIVATE_KEY : Sta s s.heap "com/example/lemniscate/lemniscate/crypto/FileKind" "PRIVATE_KEY" "Lcom/example/lemniscate/lemniscate/crypto/FileKind;" (.ref a_PRIVATE_KEY) := Sta.start ev_PRIVATE_KEY (Or.inr ⟨(hw _ tw_6), (hw _ tw_25)⟩)
  have E_PRIVATE_KEY : Exa s s.heap a_PRIVATE_KEY "com/example/lemniscate/lemniscate/crypto/FileKind" := Exa.start ev_PRIVATE_KEY n13
  have F_PUBLIC_KEY_code : Fld s s.heap a_PUBLIC_KEY "com/example/lemniscate/lemniscate/crypto/FileKind" "code" "B" (.int (1 : Int32)) := Fld.start ((fld_at ev_PUBLIC_KEY).symm.trans (eqv_i (Term.int_eval _) n15))
  have F_PASSPHRASE_CRYPTOGRAM_code : Fld s s.heap a_PASSPHRASE_CRYPTOGRAM "com/example/lemniscate/lemniscate/crypto/FileKind" "code" "B" (.int (2 : Int32)) := Fld.start ((fld_at ev_PASSPHRASE_CRYPTOGRAM).symm.trans (eqv_i (Term.int_eval _) n16))
  have F_PUBLIC_KEY_CRYPTOGRAM_code : Fld s s.heap a_PUBLIC_KEY_CRYPTOGRAM "com/example/lemniscate/lemniscate/crypto/FileKind" "code" "B" (.int (3 : Int32)) := Fld.start ((fld_at ev_PUBLIC_KEY_CRYPTOGRAM).symm.trans (eqv_i (Term.int_eval _) n17))
  have F_SIGNATURE_code : Fld s s.heap a_SIGNATURE "com/example/lemniscate/lemniscate/crypto/FileKind" "code" "B" (.int (4 : Int32)) := Fld.start ((fld_at ev_SIGNATURE).symm.trans (eqv_i (Term.int_eval _) n18))
  have F_SIGNED_CRYPTOGRAM_code : Fld s s.heap a_SIGNED_CRYPTOGRAM "com/example/lemniscate/lemniscate/crypto/FileKind" "code" "B" (.int (5 : Int32)) := Fld.start ((fld_at ev_SIGNED_CRYPTOGRAM).symm.trans (eqv_i (Term.int_eval _) n19))
  have F_PRIVATE_KEY_code : Fld s s.heap a_PRIVATE_KEY "com/example/lemniscate/lemniscate/crypto/FileKind" "code" "B" (.int (6 : Int32)) := Fld.start ((fld_at ev_PRIVATE_KEY).symm.trans (eqv_i (Term.int_eval _) n20))
  have V__VALUES : ∃ k, Arv s s.heap a__VALUES k (Jvm.ClassFile.FieldType.object "com/example/lemniscate/lemniscate/crypto/FileKind") (6 : Int32) [(.ref a_PUBLIC_KEY), (.ref a_PASSPHRASE_CRYPTOGRAM), (.ref a_PUBLIC_KEY_CRYPTOGRAM), (.ref a_SIGNATURE), (.ref a_SIGNED_CRYPTOGRAM), (.ref a_PRIVATE_KEY)] .null := own_enumArr hfit ev__VALUES n0 n2 (by decide) rfl (fun cl hc => ⟨(elem_in (own_eqR ev_PUBLIC_KEY n4) ev__VALUES (Term.int_eval _) hc).2, (elem_in (own_eqR ev_PASSPHRASE_CRYPTOGRAM n6) ev__VALUES (Term.int_eval _) hc).2, (elem_in (own_eqR ev_PUBLIC_KEY_CRYPTOGRAM n8) ev__VALUES (Term.int_eval _) hc).2, (elem_in (own_eqR ev_SIGNATURE n10) ev__VALUES (Term.int_eval _) hc).2, (elem_in (own_eqR ev_SIGNED_CRYPTOGRAM n12) ev__VALUES (Term.int_eval _) hc).2, (elem_in (own_eqR ev_PRIVATE_KEY n14) ev__VALUES (Term.int_eval _) hc).2, trivial⟩)
  have G : OwnG s a__VALUES a_PUBLIC_KEY a_PASSPHRASE_CRYPTOGRAM a_PUBLIC_KEY_CRYPTOGRAM a_SIGNATURE a_SIGNED_CRYPTOGRAM a_PRIVATE_KEY := ⟨S__VALUES, E__VALUES, S_PUBLIC_KEY, E_PUBLIC_KEY, S_PASSPHRASE_CRYPTOGRAM, E_PASSPHRASE_CRYPTOGRAM, S_PUBLIC_KEY_CRYPTOGRAM, E_PUBLIC_KEY_CRYPTOGRAM, S_SIGNATURE, E_SIGNATURE, S_SIGNED_CRYPTOGRAM, E_SIGNED_CRYPTOGRAM, S_PRIVATE_KEY, E_PRIVATE_KEY, F_PUBLIC_KEY_code, F_PASSPHRASE_CRYPTOGRAM_code, F_PUBLIC_KEY_CRYPTOGRAM_code, F_SIGNATURE_code, F_SIGNED_CRYPTOGRAM_code, F_PRIVATE_KEY_code, V__VALUES⟩
  obtain ⟨n, o, h1, h2, h3, _, L, rfl, ⟨rfl, N⟩, hq⟩ := rm0 l s _ hw i0 s.heap s.heap.size G ⟨Nat.le_refl _, fun _ _ q => q⟩ p e ha hc hk s m _ below hf ((Spec.applies_iff_loose hf).mp happ).1 ⟨rfl, State.Warmed39.refl s, rfl⟩ trivial
  refine ⟨n, _, h1, h2, h3, hpost _ _ _ _ _ _ ⟨Cond.after_iff.mpr rfl, Cond.after_iff.mpr (eq_i res_at (Term.int_eval (1)) rfl), trivial⟩ ⟨hq.1, hq.2.1, (hq.2.2.sift fun y hy => Or.inr (N y hy)).mono (by decide) (by decide)⟩⟩
theorem main_1_1 : Claimed_1_1 := comes_1 fun _ _ _ _ _ _ h hF => ⟨h.1, hF⟩
theorem main_1_2 : Claimed_1_2 := comes_1 fun _ _ _ _ _ _ h hF => ⟨h.2.1, hF⟩
end Jvm.Pilot.@@N@@
namespace Jvm.Pilot.@@N@@
open Jvm Jvm.ClassFile Sem Op Lib Jvm.Free Jvm.Stand Jvm.Pilot.@@N@@.Jvm.D
/-! MADE BY PROGRAM (witnessworld.py) out of the Statement's table words and the real class files: 13 classes; the members and pool entries that the words name. The judged class is class 1, her method 2. -/
namespace start1
open Jvm.ClassFile
def u (s : String) : CpInfo := .utf8 (stringToUtf16 s)
/-- a pool by its gaps: so many unusable entries, then the entry; so many at the end -/
def gap : Nat → List CpInfo → List CpInfo
  | 0, r => r
  | n + 1, r => .unusable :: gap n r
def poolList (es : List (Nat × CpInfo)) (last : Nat) : List CpInfo := es.foldr (fun e r => gap e.1 (e.2 :: r)) (gap last [])
def pool (es : List (Nat × CpInfo)) (last : Nat) : Array CpInfo := ⟨poolList es last⟩
def fileOf (pool : Array CpInfo) (this : Nat) (attrs : Array Attribute := #[]) (ms : Array MethodInfo := #[]) (fl : Nat := 33) (sup : Nat := 0) (ifs : Array Nat := #[]) (fds : Array FieldInfo := #[]) : ClassFile where
  minorVersion := 0
  majorVersion := 65
  constantPool := pool
  accessFlags := fl
  thisClass := this
  superClass := sup
  interfaces := ifs
  fields := fds
  methods := ms
  attributes := attrs
def plain (name : String) (sup : Option ClassId) : Class where
  name := name
  kind := .ordinary
  loader := none
  accessFlags := 33
  super := sup
  interfaces := #[]
  cf := none
  fields := #[]
  methods := #[]
  instanceTypes := #[]
  staticTypes := #[]
  resolved := #[]
  callSites := []
  init := .initialized
  statics := none
  mirror := none

def pool0 : Array CpInfo := pool [(5, u "<init>"), (0, u "()V"), (1, .class_ 10), (1, u "java/lang/Object"), (85, u "clone"), (0, u "()Ljava/lang/Object;")] 26

def k0m0 : Method := { name := "<init>", desc := "()V", sig := { parameters := [], returnType := none }, accessFlags := 1, code := none }
def k0m1 : Method := { name := "clone", desc := "()Ljava/lang/Object;", sig := { parameters := [], returnType := some (.object "java/lang/Object") }, accessFlags := 260, code := none }
/-- java/lang/Object -/
def k0 : Class := { plain "java/lang/Object" none with
  accessFlags := 33
  interfaces := #[]
  cf := some (fileOf pool0 8 #[] #[{ accessFlags := 1, nameIndex := 5, descriptorIndex := 6, attributes := #[] }, { accessFlags := 260, nameIndex := 96, descriptorIndex := 97, attributes := #[] }] 33 0 #[] #[])
  fields := #[]
  methods := #[k0m0, k0m1]
  instanceTypes := #[]
  staticTypes := #[]
  resolved := Array.replicate 124 none
  statics := none }

def pool1 : Array CpInfo := pool [(2, .class_ 4), (1, u "java/lang/Object"), (0, u "<init>"), (0, u "()V"), (0, .fieldref 8 9), (0, .class_ 10), (0, .nameAndType 11 12), (0, u "com/example/lemniscate/lemniscate/crypto/FileKind"), (0, u "PUBLIC_KEY"), (0, u "Lcom/example/lemniscate/lemniscate/crypto/FileKind;"), (0, .fieldref 8 14), (0, .nameAndType 15 12), (0, u "PASSPHRASE_CRYPTOGRAM"), (0, .fieldref 8 17), (0, .nameAndType 18 12), (0, u "PUBLIC_KEY_CRYPTOGRAM"), (0, .fieldref 8 20), (0, .nameAndType 21 12), (0, u "SIGNATURE"), (0, .fieldref 8 23), (0, .nameAndType 24 12), (0, u "SIGNED_CRYPTOGRAM"), (0, .fieldref 8 26), (0, .nameAndType 27 12), (0, u "PRIVATE_KEY"), (0, .methodref 29 30), (0, .class_ 31), (0, .nameAndType 32 33), (0, u "com/example/lemniscate/lemniscate/crypto/FileKindFindPinLaw"), (0, u "expected"), (0, u "(B)Lcom/example/lemniscate/lemniscate/crypto/FileKind;"), (0, .methodref 8 35), (0, .nameAndType 36 33), (0, u "find"), (3, u "law"), (0, u "(I)Z")] 2

def k1m0 : Method := { name := "<init>", desc := "()V", sig := { parameters := [], returnType := none }, accessFlags := 1, code := none }
def k1c1 : Code := { maxStack := 2, maxLocals := 1, code := method_2_code, exceptionTable := #[], attributes := #[] }
def k1m1 : Method := { name := "expected", desc := "(B)Lcom/example/lemniscate/lemniscate/crypto/FileKind;", sig := { parameters := [.byte], returnType := some (.object "com/example/lemniscate/lemniscate/crypto/FileKind") }, accessFlags := 10, code := some k1c1 }
def k1c2 : Code := { maxStack := 2, maxLocals := 4, code := code, exceptionTable := #[], attributes := #[] }
def k1m2 : Method := { name := "law", desc := "(I)Z", sig := { parameters := [.int], returnType := some .boolean }, accessFlags := 9, code := some k1c2 }
/-- com/example/lemniscate/lemniscate/crypto/FileKindFindPinLaw -/
def k1 : Class := { plain "com/example/lemniscate/lemniscate/crypto/FileKindFindPinLaw" (some 0) with
  accessFlags := 49
  interfaces := #[]
  cf := some (fileOf pool1 29 #[] #[{ accessFlags := 1, nameIndex := 5, descriptorIndex := 6, attributes := #[] }, { accessFlags := 10, nameIndex := 32, descriptorIndex := 33, attributes := #[] }, { accessFlags := 9, nameIndex := 40, descriptorIndex := 41, attributes := #[] }] 49 2 #[] #[])
  fields := #[]
  methods := #[k1m0, k1m1, k1m2]
  instanceTypes := #[]
  staticTypes := #[]
  resolved := Array.replicate 44 none
  statics := none }

def pool2 : Array CpInfo := pool [(1, .class_ 2), (0, u "java/lang/constant/Constable"), (0, .class_ 4), (0, u "java/lang/Object")] 6

/-- java/lang/constant/Constable -/
def k2 : Class := { plain "java/lang/constant/Constable" (some 0) with
  accessFlags := 1537
  interfaces := #[]
  cf := some (fileOf pool2 1 #[] #[] 1537 3 #[] #[])
  fields := #[]
  methods := #[]
  instanceTypes := #[]
  staticTypes := #[]
  resolved := Array.replicate 11 none
  statics := none }

def pool3 : Array CpInfo := pool [(1, .class_ 2), (0, u "java/lang/Comparable"), (0, .class_ 4), (0, u "java/lang/Object")] 7

/-- java/lang/Comparable -/
def k3 : Class := { plain "java/lang/Comparable" (some 0) with
  accessFlags := 1537
  interfaces := #[]
  cf := some (fileOf pool3 1 #[] #[] 1537 3 #[] #[])
  fields := #[]
  methods := #[]
  instanceTypes := #[]
  staticTypes := #[]
  resolved := Array.replicate 12 none
  statics := none }

def pool4 : Array CpInfo := pool [(1, .class_ 2), (0, u "java/io/Serializable"), (0, .class_ 4), (0, u "java/lang/Object")] 2

/-- java/io/Serializable -/
def k4 : Class := { plain "java/io/Serializable" (some 0) with
  accessFlags := 1537
  interfaces := #[]
  cf := some (fileOf pool4 1 #[] #[] 1537 3 #[] #[])
  fields := #[]
  methods := #[]
  instanceTypes := #[]
  staticTypes := #[]
  resolved := Array.replicate 7 none
  statics := none }

def pool5 : Array CpInfo := pool [(2, .class_ 4), (1, u "java/lang/Enum"), (0, u "name"), (0, u "Ljava/lang/String;"), (2, u "ordinal"), (0, u "I"), (1, .class_ 14), (1, u "java/lang/Object"), (4, u "hash"), (86, .class_ 108), (1, u "java/lang/Enum$EnumDesc"), (2, .class_ 112), (0, u "java/lang/constant/Constable"), (0, .class_ 114), (0, u "java/lang/Comparable"), (0, .class_ 116), (0, u "java/io/Serializable")] 87

/-- java/lang/Enum -/
def k5 : Class := { plain "java/lang/Enum" (some 0) with
  accessFlags := 1057
  interfaces := #[2, 3, 4]
  cf := some (fileOf pool5 2 #[.nestMembers #[106]] #[] 1057 12 #[111, 113, 115] #[{ accessFlags := 18, nameIndex := 5, descriptorIndex := 6, attributes := #[] }, { accessFlags := 18, nameIndex := 9, descriptorIndex := 10, attributes := #[] }, { accessFlags := 2, nameIndex := 19, descriptorIndex := 10, attributes := #[] }])
  fields := #[{ name := "name", type := (.object "java/lang/String"), accessFlags := 18, slot := 0, constantValue := 0 }, { name := "ordinal", type := .int, accessFlags := 18, slot := 1, constantValue := 0 }, { name := "hash", type := .int, accessFlags := 2, slot := 2, constantValue := 0 }]
  methods := #[]
  instanceTypes := #[(.object "java/lang/String"), .int, .int]
  staticTypes := #[]
  resolved := Array.replicate 204 none
  statics := none }

def pool6 : Array CpInfo := pool [(1, .class_ 2), (0, u "com/example/lemniscate/lemniscate/crypto/FileKind"), (2, u "PUBLIC_KEY"), (0, u "Lcom/example/lemniscate/lemniscate/crypto/FileKind;"), (2, u "PASSPHRASE_CRYPTOGRAM"), (2, u "PUBLIC_KEY_CRYPTOGRAM"), (2, u "SIGNATURE"), (2, u "SIGNED_CRYPTOGRAM"), (2, u "PRIVATE_KEY"), (0, .fieldref 1 23), (0, .nameAndType 24 25), (0, u "$VALUES"), (0, u "[Lcom/example/lemniscate/lemniscate/crypto/FileKind;"), (0, .methodref 27 28), (0, .class_ 25), (0, .nameAndType 29 30), (0, u "clone"), (0, u "()Ljava/lang/Object;"), (1, .class_ 34), (1, u "java/lang/Enum"), (6, .fieldref 1 42), (0, .nameAndType 43 44), (0, u "code"), (0, u "B"), (2, u "spelling"), (0, u "Ljava/lang/String;"), (2, u "description"), (2, u "carriesMessage"), (0, u "Z"), (0, .methodref 1 57), (0, .nameAndType 58 59), (0, u "values"), (0, u "()[Lcom/example/lemniscate/lemniscate/crypto/FileKind;"), (45, u "find"), (0, u "(B)Lcom/example/lemniscate/lemniscate/crypto/FileKind;")] 6

def k6c0 : Code := { maxStack := 1, maxLocals := 0, code := prog_31_method_1_code, exceptionTable := #[], attributes := #[] }
def k6m0 : Method := { name := "values", desc := "()[Lcom/example/lemniscate/lemniscate/crypto/FileKind;", sig := { parameters := [], returnType := some (.array (.object "com/example/lemniscate/lemniscate/crypto/FileKind")) }, accessFlags := 9, code := some k6c0 }
def k6c1 : Code := { maxStack := 2, maxLocals := 5, code := prog_31_method_8_code, exceptionTable := #[], attributes := #[] }
def k6m1 : Method := { name := "find", desc := "(B)Lcom/example/lemniscate/lemniscate/crypto/FileKind;", sig := { parameters := [.byte], returnType := some (.object "com/example/lemniscate/lemniscate/crypto/FileKind") }, accessFlags := 8, code := some k6c1 }
/-- com/example/lemniscate/lemniscate/crypto/FileKind -/
def k6 : Class := { plain "com/example/lemniscate/lemniscate/crypto/FileKind" (some 5) with
  accessFlags := 16433
  interfaces := #[]
  cf := some (fileOf pool6 1 #[] #[{ accessFlags := 9, nameIndex := 58, descriptorIndex := 59, attributes := #[] }, { accessFlags := 8, nameIndex := 105, descriptorIndex := 106, attributes := #[] }] 16433 32 #[] #[{ accessFlags := 16409, nameIndex := 5, descriptorIndex := 6, attributes := #[] }, { accessFlags := 16409, nameIndex := 9, descriptorIndex := 6, attributes := #[] }, { accessFlags := 16409, nameIndex := 12, descriptorIndex := 6, attributes := #[] }, { accessFlags := 16409, nameIndex := 15, descriptorIndex := 6, attributes := #[] }, { accessFlags := 16409, nameIndex := 18, descriptorIndex := 6, attributes := #[] }, { accessFlags := 16409, nameIndex := 21, descriptorIndex := 6, attributes := #[] }, { accessFlags := 18, nameIndex := 43, descriptorIndex := 44, attributes := #[] }, { accessFlags := 18, nameIndex := 47, descriptorIndex := 48, attributes := #[] }, { accessFlags := 18, nameIndex := 51, descriptorIndex := 48, attributes := #[] }, { accessFlags := 18, nameIndex := 54, descriptorIndex := 55, attributes := #[] }, { accessFlags := 4122, nameIndex := 24, descriptorIndex := 25, attributes := #[] }])
  fields := #[{ name := "PUBLIC_KEY", type := (.object "com/example/lemniscate/lemniscate/crypto/FileKind"), accessFlags := 16409, slot := 0, constantValue := 0 }, { name := "PASSPHRASE_CRYPTOGRAM", type := (.object "com/example/lemniscate/lemniscate/crypto/FileKind"), accessFlags := 16409, slot := 1, constantValue := 0 }, { name := "PUBLIC_KEY_CRYPTOGRAM", type := (.object "com/example/lemniscate/lemniscate/crypto/FileKind"), accessFlags := 16409, slot := 2, constantValue := 0 }, { name := "SIGNATURE", type := (.object "com/example/lemniscate/lemniscate/crypto/FileKind"), accessFlags := 16409, slot := 3, constantValue := 0 }, { name := "SIGNED_CRYPTOGRAM", type := (.object "com/example/lemniscate/lemniscate/crypto/FileKind"), accessFlags := 16409, slot := 4, constantValue := 0 }, { name := "PRIVATE_KEY", type := (.object "com/example/lemniscate/lemniscate/crypto/FileKind"), accessFlags := 16409, slot := 5, constantValue := 0 }, { name := "code", type := .byte, accessFlags := 18, slot := 3, constantValue := 0 }, { name := "spelling", type := (.object "java/lang/String"), accessFlags := 18, slot := 4, constantValue := 0 }, { name := "description", type := (.object "java/lang/String"), accessFlags := 18, slot := 5, constantValue := 0 }, { name := "carriesMessage", type := .boolean, accessFlags := 18, slot := 6, constantValue := 0 }, { name := "$VALUES", type := (.array (.object "com/example/lemniscate/lemniscate/crypto/FileKind")), accessFlags := 4122, slot := 6, constantValue := 0 }]
  methods := #[k6m0, k6m1]
  instanceTypes := #[(.object "java/lang/String"), .int, .int, .byte, (.object "java/lang/String"), (.object "java/lang/String"), .boolean]
  staticTypes := #[(.object "com/example/lemniscate/lemniscate/crypto/FileKind"), (.object "com/example/lemniscate/lemniscate/crypto/FileKind"), (.object "com/example/lemniscate/lemniscate/crypto/FileKind"), (.object "com/example/lemniscate/lemniscate/crypto/FileKind"), (.object "com/example/lemniscate/lemniscate/crypto/FileKind"), (.object "com/example/lemniscate/lemniscate/crypto/FileKind"), (.array (.object "com/example/lemniscate/lemniscate/crypto/FileKind"))]
  resolved := Array.replicate 113 none
  statics := some 0 }

def pool7 : Array CpInfo := pool [(1, .class_ 2), (0, u "java/lang/Cloneable"), (0, .class_ 4), (0, u "java/lang/Object")] 2

/-- java/lang/Cloneable -/
def k7 : Class := { plain "java/lang/Cloneable" (some 0) with
  accessFlags := 1537
  interfaces := #[]
  cf := some (fileOf pool7 1 #[] #[] 1537 3 #[] #[])
  fields := #[]
  methods := #[]
  instanceTypes := #[]
  staticTypes := #[]
  resolved := Array.replicate 7 none
  statics := none }

/-- the primitive byte -/
def k8 : Class := { plain "byte" none with kind := .primitive 'B', accessFlags := 0x411 }
/-- [B -/
def k9 : Class := { plain "[B" (some 0) with kind := .array 8 .byte, interfaces := #[7, 4], accessFlags := 1041 }

/-- the primitive int -/
def k10 : Class := { plain "int" none with kind := .primitive 'I', accessFlags := 0x411 }
/-- [I -/
def k11 : Class := { plain "[I" (some 0) with kind := .array 10 .int, interfaces := #[7, 4], accessFlags := 1041 }

/-- [Lcom/example/lemniscate/lemniscate/crypto/FileKind; -/
def k12 : Class := { plain "[Lcom/example/lemniscate/lemniscate/crypto/FileKind;" (some 0) with kind := .array 6 (.object "com/example/lemniscate/lemniscate/crypto/FileKind"), interfaces := #[7, 4], accessFlags := 1041 }

def heap : Heap := #[{ cls := 6, slots := #[.ref 2, .ref 3, .ref 4, .ref 5, .ref 6, .ref 7, .ref 1], vm := .statics 6 },
  { cls := 12, slots := #[.ref 2, .ref 3, .ref 4, .ref 5, .ref 6, .ref 7], vm := .none },
  { cls := 6, slots := #[.null, .int 0, .int 0, .int 1, .null, .null, .int 0], vm := .none },
  { cls := 6, slots := #[.null, .int 0, .int 0, .int 2, .null, .null, .int 0], vm := .none },
  { cls := 6, slots := #[.null, .int 0, .int 0, .int 3, .null, .null, .int 0], vm := .none },
  { cls := 6, slots := #[.null, .int 0, .int 0, .int 4, .null, .null, .int 0], vm := .none },
  { cls := 6, slots := #[.null, .int 0, .int 0, .int 5, .null, .null, .int 0], vm := .none },
  { cls := 6, slots := #[.null, .int 0, .int 0, .int 6, .null, .null, .int 0], vm := .none }]
def classes : Array Class := #[k0, k1, k2, k3, k4, k5, k6, k7, k8, k9, k10, k11, k12]
def interned : List (Array UInt16 × Addr) := []
def slotsUsed : Nat := 55
def theMethod : MethodId := ⟨1, 2⟩
def args0 : Array Value := #[.int 5]
def aboutOver (below : List Frame) : State where
  vm := { classes := classes, interned := interned.toArray }
  heap := heap
  slotsUsed := slotsUsed
  threads := #[{ frames := .invoking theMethod args0 :: below }]
def below0 : List Frame := [.native { method := ⟨0, 0⟩, args := #[] }]
def about1 : State := aboutOver below0
def p0 : Program := .bare "" "" ""
def e0 : Env := launch0.env 0 0 0
theorem w_frames : about1.frames = Frame.invoking theMethod args0 :: below0 := rfl
set_option maxRecDepth 65536 in
theorem w_args : argsFit about1.vm theMethod args0 = true := by decide +kernel
set_option maxRecDepth 65536 in
theorem w_heap : heapFits about1 = true := by decide +kernel
set_option maxRecDepth 65536 in
theorem w_runnable : about1.curStatus? = some .runnable := by decide +kernel
set_option maxRecDepth 65536 in
theorem w_alone : about1.alone = true := by decide +kernel
set_option maxRecDepth 65536 in
theorem w_named : about1.methodNamed? x = some theMethod := by decide +kernel
set_option maxRecDepth 65536 in
theorem w_hears : about1.hears theMethod below0 = true := by decide +kernel
set_option maxRecDepth 65536 in
theorem w_ripe : about1.ripe theMethod args0 below0 = true := by decide +kernel
theorem w_running : about1.status = .running := rfl
set_option maxRecDepth 65536 in
theorem w_room : about1.hasRoom e0.platform room_1 = true :=
  launch0.hasRoom_least _ room_1 (by decide +kernel) (by decide +kernel) (by decide +kernel) (by decide +kernel) (by decide +kernel) (by decide +kernel)
theorem allAtoms_all (ts : List Jvm.Cond) (a : Array Jvm.Value) (st : Jvm.State) : (allAtoms ts).before a st = ts.all (fun c => c.before a st) := by
  induction ts with
  | nil => rfl
  | cons c t ih =>
    show (Jvm.Cond.and c (allAtoms t)).before a st = _
    rw [Jvm.Cond.before_and, ih, List.all_cons]
def words1 : List Jvm.Cond := Jvm.Cond.code x code maxLocals ret :: tables_1
/-- a 'code' word, met by the world's own term for the bytes: nothing is compared byte by byte -/
theorem code_word {y : MethodName} {bytes : ByteArray} {mx : Nat} {rt : Option FieldType} {a : Array Value} {s : State} {m : MethodId} {meth : Method} {c : Code} (h1 : s.methodNamed? y = some m) (h2 : s.vm.method? m = some meth) (h3 : meth.code = some c) (h4 : c.code = bytes)
    (h5 : (c.maxLocals == mx && c.exceptionTable.isEmpty && decide (c.maxStack ≤ mostOperands) && decide (meth.sig.returnType = rt) && !meth.locks && decide (parseMethodDescriptor y.desc = some meth.sig)) = true) : (Jvm.Cond.code y bytes mx rt).before a s = true := by
  simp only [Bool.and_eq_true, beq_iff_eq, Bool.not_eq_true', decide_eq_true_eq] at h5
  obtain ⟨⟨⟨⟨⟨g1, g2⟩, g3⟩, g4⟩, g5⟩, g6⟩ := h5
  simp [Cond.before, Cond.holds, Cond.value, h1, h2, h3, h4, g1, g2, g3, g4, g5, g6]
def isCode : Jvm.Cond → Bool
  | .code _ _ _ _ => true
  | _ => false
theorem all_split {L : List Jvm.Cond} {P : Jvm.Cond → Bool} (h1 : L.all (fun c => isCode c || P c) = true) (h2 : ∀ c ∈ L.filter isCode, P c = true) : L.all P = true := by
  refine List.all_eq_true.mpr fun c hc => ?_
  have h := List.all_eq_true.mp h1 c hc
  rcases Bool.eq_false_or_eq_true (isCode c) with hi | hi
  · exact h2 c (List.mem_filter.mpr ⟨hc, hi⟩)
  · simpa [hi] using h
set_option maxRecDepth 65536 in
theorem w_c0 : (Jvm.Cond.code x code maxLocals ret).before args0 about1 = true := code_word (m := ⟨1, 2⟩) (meth := k1m2) (c := k1c2) (by decide +kernel) rfl rfl rfl (by decide +kernel)
set_option maxRecDepth 65536 in
theorem w_c1 : (Jvm.Cond.code ({ cls := "com/example/lemniscate/lemniscate/crypto/FileKindFindPinLaw", name := "expected", desc := "(B)Lcom/example/lemniscate/lemniscate/crypto/FileKind;" } : Jvm.MethodName) method_2_code (1 : Nat) (Option.some (Jvm.ClassFile.FieldType.object "com/example/lemniscate/lemniscate/crypto/FileKind"))).before args0 about1 = true := code_word (m := ⟨1, 1⟩) (meth := k1m1) (c := k1c1) (by decide +kernel) rfl rfl rfl (by decide +kernel)
set_option maxRecDepth 65536 in
theorem w_c2 : (Jvm.Cond.code ({ cls := "com/example/lemniscate/lemniscate/crypto/FileKind", name := "find", desc := "(B)Lcom/example/lemniscate/lemniscate/crypto/FileKind;" } : Jvm.MethodName) prog_31_method_8_code (5 : Nat) (Option.some (Jvm.ClassFile.FieldType.object "com/example/lemniscate/lemniscate/crypto/FileKind"))).before args0 about1 = true := code_word (m := ⟨6, 1⟩) (meth := k6m1) (c := k6c1) (by decide +kernel) rfl rfl rfl (by decide +kernel)
set_option maxRecDepth 65536 in
theorem w_c3 : (Jvm.Cond.code ({ cls := "com/example/lemniscate/lemniscate/crypto/FileKind", name := "values", desc := "()[Lcom/example/lemniscate/lemniscate/crypto/FileKind;" } : Jvm.MethodName) prog_31_method_1_code (0 : Nat) (Option.some (Jvm.ClassFile.FieldType.array (Jvm.ClassFile.FieldType.object "com/example/lemniscate/lemniscate/crypto/FileKind")))).before args0 about1 = true := code_word (m := ⟨6, 0⟩) (meth := k6m0) (c := k6c0) (by decide +kernel) rfl rfl rfl (by decide +kernel)
def codes1 : List Jvm.Cond := [Jvm.Cond.code x code maxLocals ret, Jvm.Cond.code ({ cls := "com/example/lemniscate/lemniscate/crypto/FileKindFindPinLaw", name := "expected", desc := "(B)Lcom/example/lemniscate/lemniscate/crypto/FileKind;" } : Jvm.MethodName) method_2_code (1 : Nat) (Option.some (Jvm.ClassFile.FieldType.object "com/example/lemniscate/lemniscate/crypto/FileKind")), Jvm.Cond.code ({ cls := "com/example/lemniscate/lemniscate/crypto/FileKind", name := "find", desc := "(B)Lcom/example/lemniscate/lemniscate/crypto/FileKind;" } : Jvm.MethodName) prog_31_method_8_code (5 : Nat) (Option.some (Jvm.ClassFile.FieldType.object "com/example/lemniscate/lemniscate/crypto/FileKind")), Jvm.Cond.code ({ cls := "com/example/lemniscate/lemniscate/crypto/FileKind", name := "values", desc := "()[Lcom/example/lemniscate/lemniscate/crypto/FileKind;" } : Jvm.MethodName) prog_31_method_1_code (0 : Nat) (Option.some (Jvm.ClassFile.FieldType.array (Jvm.ClassFile.FieldType.object "com/example/lemniscate/lemniscate/crypto/FileKind")))]
set_option maxRecDepth 65536 in
theorem codes_eq : words1.filter isCode = codes1 := rfl
theorem w_codes : ∀ c ∈ words1.filter isCode, c.before args0 about1 = true := by
  rw [codes_eq]
  intro c hc
  simp only [codes1, List.mem_cons, List.not_mem_nil, or_false] at hc
  rcases hc with rfl | rfl | rfl | rfl
  · exact w_c0
  · exact w_c1
  · exact w_c2
  · exact w_c3
set_option maxRecDepth 65536 in
theorem w_t1 : (words1.take 24).all (fun c => isCode c || c.before args0 about1) = true := by decide +kernel
set_option maxRecDepth 65536 in
theorem w_t2 : (words1.drop 24).all (fun c => isCode c || c.before args0 about1) = true := by decide +kernel
theorem w_tables : (allAtoms (Jvm.Cond.code x code maxLocals ret :: tables_1)).before args0 about1 = true := by
  rw [allAtoms_all]
  show words1.all (fun c => c.before args0 about1) = true
  refine all_split ?_ w_codes
  rw [← List.take_append_drop 24 words1, List.all_append, w_t1, w_t2]
  rfl
set_option maxRecDepth 65536 in
theorem w_case : (Jvm.Cond.and given_1 narrow_1).before args0 about1 = true := by decide +kernel
theorem w_applies : (headSpec (Jvm.Cond.code x code maxLocals ret :: tables_1) room_1).applies x e0.platform about1 = true :=
  (Spec.applies_iff w_frames).mpr ⟨w_running, w_runnable, w_alone, w_named, w_hears, w_ripe, w_room, w_tables⟩
theorem atStart : AtStart classFile x code maxLocals ret World_1 tables_1 room_1 Calls_1 rest_1 Pre_1 launch0 p0 e0 about1 theMethod args0 below0 :=
  ⟨lists_1, trivial, launch0.admits_env _ _ _, launch0.least_env, fairChoices_fair.cas, fairChoices_fair.clock, w_frames, w_args, w_heap, w_applies, trivial, trivial, w_case⟩
end start1
theorem witness_1 : WitnessClaimed_1 := ⟨start1.p0, start1.e0, start1.about1, start1.theMethod, start1.args0, start1.below0, start1.atStart⟩
end Jvm.Pilot.@@N@@

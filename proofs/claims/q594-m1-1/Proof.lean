import JvmDerived
import JvmDerived.Pilot.@@N@@Statement
import JvmDerived.Pilot.@@N@@Code
set_option linter.unusedVariables false
set_option linter.unusedSimpArgs false
namespace Jvm.Pilot.@@N@@
open Jvm Jvm.ClassFile Sem Op Lib Jvm.Free Jvm.Stand Jvm.LawKit Jvm.RoadKit Bundle Jvm.Pilot.@@N@@.Jvm.D
/-! THE LAYER own_: 'Ends': from this state the body ends as Q says; one lemma an instruction, over frames in the form mkF -/
section Own
variable {p : Program} {l : Launch} {e : Env} {R : Room} {s : State} {m : MethodId} {args : Array Value} {below : List Frame} {meth : Method} {c : Code} {T : State} {locs : List Loc} {cells slots : Nat}
variable {Q : Option Value → Heap → List Loc → Prop} {C S : Nat} {bc : ByteArray} {pc pc' : Nat} {Ls Ls' : Array Slot} {st : List Value} {Fz : Outcome → State → Prop}
def Ends (tb : Tables) (e : Env) (below : List Frame) (Fz : Outcome → State → Prop) (t : State) : Prop :=
  ∃ s₂ o, Steps tb e below t s₂ ∧ s₂.status = .running ∧ Ended s₂ below o ∧ Fz o s₂
def OwnFin (s : State) (Q : Option Value → Heap → List Loc → Prop) (C S : Nat) (o : Outcome) (s₂ : State) : Prop := ∃ v L, o = .returned v ∧ Q v s₂.heap L ∧ FrameEnd s o s₂ L C S
theorem Ends.of {tb : Tables} {t t' : State} (st : ∀ target, Steps tb e below t' target → Steps tb e below t target) (k : Ends tb e below Fz t') : Ends tb e below Fz t := by
  obtain ⟨s₂, o, h1, h2⟩ := k
  exact ⟨s₂, o, st _ h1, h2⟩
theorem Ends.tr {tb : Tables} {t t' : State} (st : Steps tb e below t t') (k : Ends tb e below Fz t') : Ends tb e below Fz t := Ends.of (fun _ q => st.trans q) k
theorem own_iload (X : Stand p l e R s m args below meth c T locs cells slots) (hx : p.tables.exec = Jvm.exec) (hby : c.code = bc) {k : Nat} {v : Int32} (hd : decode bc pc = .ok (.iload k, 2)) (hp : pc + 2 = pc') (hl : Ls[k]? = some (.val (.int v)))
    (kt : Ends p.tables e below Fz (T.setTop (mkF m pc' Ls (.int v :: st)))) : Ends p.tables e below Fz (T.setTop (mkF m pc Ls st)) := by
  subst hp; exact Ends.of (fun _ q => XS.iload X.here hx rfl (hb hby hd) hl q) kt
theorem own_lloadN (X : Stand p l e R s m args below meth c T locs cells slots) (hx : p.tables.exec = Jvm.exec) (hby : c.code = bc) {k : Fin 4} {v : Int64} (hd : decode bc pc = .ok (.lload_n k, 1)) (hp : pc + 1 = pc') (hl : Ls[k.val]? = some (.val (.long v)))
    (kt : Ends p.tables e below Fz (T.setTop (mkF m pc' Ls (.long v :: st)))) : Ends p.tables e below Fz (T.setTop (mkF m pc Ls st)) := by
  subst hp; exact Ends.of (fun _ q => Jvm.Free.XT.lloadN X.here hx rfl (hb hby hd) hl q) kt
theorem own_lload (X : Stand p l e R s m args below meth c T locs cells slots) (hx : p.tables.exec = Jvm.exec) (hby : c.code = bc) {k : Nat} {v : Int64} (hd : decode bc pc = .ok (.lload k, 2)) (hp : pc + 2 = pc') (hl : Ls[k]? = some (.val (.long v)))
    (kt : Ends p.tables e below Fz (T.setTop (mkF m pc' Ls (.long v :: st)))) : Ends p.tables e below Fz (T.setTop (mkF m pc Ls st)) := by
  subst hp; exact Ends.of (fun _ q => Jvm.Free.XT.lload X.here hx rfl (hb hby hd) hl q) kt
theorem own_istore (X : Stand p l e R s m args below meth c T locs cells slots) (hx : p.tables.exec = Jvm.exec) (hby : c.code = bc) {k : Nat} {v : Int32} (hd : decode bc pc = .ok (.istore k, 2)) (hp : pc + 2 = pc') (Ls' : Array Slot) (hl : storeLocals Ls k (.int v) = some Ls')
    (kt : Ends p.tables e below Fz (T.setTop (mkF m pc' Ls' st))) : Ends p.tables e below Fz (T.setTop (mkF m pc Ls (.int v :: st))) := by
  subst hp; exact Ends.of (fun _ q => XS.istore X.here hx rfl (hb hby hd) rfl hl q) kt
theorem own_lstore (X : Stand p l e R s m args below meth c T locs cells slots) (hx : p.tables.exec = Jvm.exec) (hby : c.code = bc) {k : Nat} {v : Int64} (hd : decode bc pc = .ok (.lstore k, 2)) (hp : pc + 2 = pc') (Ls' : Array Slot) (hl : storeLocals Ls k (.long v) = some Ls')
    (kt : Ends p.tables e below Fz (T.setTop (mkF m pc' Ls' st))) : Ends p.tables e below Fz (T.setTop (mkF m pc Ls (.long v :: st))) := by
  subst hp; exact Ends.of (fun _ q => Jvm.Free.XT.lstore X.here hx rfl (hb hby hd) rfl hl q) kt
theorem own_iconst (X : Stand p l e R s m args below meth c T locs cells slots) (hx : p.tables.exec = Jvm.exec) (hby : c.code = bc) {i : Int} (hd : decode bc pc = .ok (.iconst i, 1)) (hp : pc + 1 = pc') (v : Int32) (hv : Int32.ofInt i = v)
    (kt : Ends p.tables e below Fz (T.setTop (mkF m pc' Ls (.int v :: st)))) : Ends p.tables e below Fz (T.setTop (mkF m pc Ls st)) := by
  subst hp; exact Ends.of (fun _ q => by subst hv; exact XS.iconst X.here hx rfl (hb hby hd) q) kt
theorem own_lconst (X : Stand p l e R s m args below meth c T locs cells slots) (hx : p.tables.exec = Jvm.exec) (hby : c.code = bc) {i : Fin 2} (hd : decode bc pc = .ok (.lconst i, 1)) (hp : pc + 1 = pc') (v : Int64) (hv : Int64.ofNat i = v)
    (kt : Ends p.tables e below Fz (T.setTop (mkF m pc' Ls (.long v :: st)))) : Ends p.tables e below Fz (T.setTop (mkF m pc Ls st)) := by
  subst hp; exact Ends.of (fun _ q => by subst hv; exact Jvm.Free.XT.lconst X.here hx rfl (hb hby hd) q) kt
theorem own_ladd (X : Stand p l e R s m args below meth c T locs cells slots) (hx : p.tables.exec = Jvm.exec) (hby : c.code = bc) {x y : Int64} (hd : decode bc pc = .ok (.ladd, 1)) (hp : pc + 1 = pc')
    (kt : Ends p.tables e below Fz (T.setTop (mkF m pc' Ls (.long (x + y) :: st)))) : Ends p.tables e below Fz (T.setTop (mkF m pc Ls (.long y :: .long x :: st))) := by
  subst hp; exact Ends.of (fun _ q => Jvm.Free.XT.ladd X.here hx rfl (hb hby hd) rfl q) kt
theorem own_lsub (X : Stand p l e R s m args below meth c T locs cells slots) (hx : p.tables.exec = Jvm.exec) (hby : c.code = bc) {x y : Int64} (hd : decode bc pc = .ok (.lsub, 1)) (hp : pc + 1 = pc')
    (kt : Ends p.tables e below Fz (T.setTop (mkF m pc' Ls (.long (x - y) :: st)))) : Ends p.tables e below Fz (T.setTop (mkF m pc Ls (.long y :: .long x :: st))) := by
  subst hp; exact Ends.of (fun _ q => Jvm.Free.XT.lsub X.here hx rfl (hb hby hd) rfl q) kt
theorem own_lshr (X : Stand p l e R s m args below meth c T locs cells slots) (hx : p.tables.exec = Jvm.exec) (hby : c.code = bc) {x : Int64} {y : Int32} (hd : decode bc pc = .ok (.lshr, 1)) (hp : pc + 1 = pc')
    (kt : Ends p.tables e below Fz (T.setTop (mkF m pc' Ls (.long (x >>> (y.toInt64 &&& 63)) :: st)))) : Ends p.tables e below Fz (T.setTop (mkF m pc Ls (.int y :: .long x :: st))) := by
  subst hp; exact Ends.of (fun _ q => Jvm.Free.XT.lshr X.here hx rfl (hb hby hd) rfl q) kt
theorem own_goto (X : Stand p l e R s m args below meth c T locs cells slots) (hx : p.tables.exec = Jvm.exec) (hby : c.code = bc) {o : Int} (hd : decode bc pc = .ok (.goto o, 3)) (hp : (pc : Int) + o = (pc' : Int)) (kt : Ends p.tables e below Fz (T.setTop (mkF m pc' Ls st))) : Ends p.tables e below Fz (T.setTop (mkF m pc Ls st)) :=
  Ends.of (fun _ q => XS.goto X.here hx rfl (pc0 := pc) (pc' := pc') rfl (hb hby hd) (by rw [hp]; exact Int.natCast_nonneg _) (by rw [hp]; rfl) q) kt
theorem own_icmp_ne (X : Stand p l e R s m args below meth c T locs cells slots) (hx : p.tables.exec = Jvm.exec) (hby : c.code = bc) {x y : Int32} {o : Int} {pcY pcN : Nat} (hd : decode bc pc = .ok (.if_icmp .ne o, 3)) (hpY : (pc : Int) + o = (pcY : Int)) (hpN : pc + 3 = pcN) (kY : ¬ x = y → Ends p.tables e below Fz (T.setTop (mkF m pcY Ls st))) (kN : x = y → Ends p.tables e below Fz (T.setTop (mkF m pcN Ls st))) : Ends p.tables e below Fz (T.setTop (mkF m pc Ls (.int y :: .int x :: st))) := by
  subst hpN; by_cases h : x = y
  · exact Ends.of (fun _ q => XS.icmpNo X.here hx rfl (hb hby hd) rfl (Jvm.Free.XT.ii_ne_f h) q) (kN h)
  · exact Ends.of (fun _ q => XS.icmpYes X.here hx rfl (pc0 := pc) (pc' := pcY) rfl (hb hby hd) rfl (Jvm.Free.XT.ii_ne_t h) (by rw [hpY]; exact Int.natCast_nonneg _) (by rw [hpY]; rfl) q) (kY h)
theorem own_if_eq (X : Stand p l e R s m args below meth c T locs cells slots) (hx : p.tables.exec = Jvm.exec) (hby : c.code = bc) {x : Int32} {o : Int} {pcY pcN : Nat} (hd : decode bc pc = .ok (.ifCond .eq o, 3)) (hpY : (pc : Int) + o = (pcY : Int)) (hpN : pc + 3 = pcN) (kY : x = 0 → Ends p.tables e below Fz (T.setTop (mkF m pcY Ls st))) (kN : ¬ x = 0 → Ends p.tables e below Fz (T.setTop (mkF m pcN Ls st))) : Ends p.tables e below Fz (T.setTop (mkF m pc Ls (.int x :: st))) := by
  subst hpN; by_cases h : x = (0 : Int32)
  · exact Ends.of (fun _ q => XS.ifYes X.here hx rfl (pc0 := pc) (pc' := pcY) rfl (hb hby hd) rfl (Jvm.Free.XT.i0_eq_t h) (by rw [hpY]; exact Int.natCast_nonneg _) (by rw [hpY]; rfl) q) (kY h)
  · exact Ends.of (fun _ q => XS.ifNo X.here hx rfl (hb hby hd) rfl (Jvm.Free.XT.i0_eq_f h) q) (kN h)
theorem own_lcmp_gt (X : Stand p l e R s m args below meth c T locs cells slots) (hx : p.tables.exec = Jvm.exec) (hby : c.code = bc) {x y : Int64} {o : Int} {pcY pcN : Nat} (hc : decode bc pc = .ok (.lcmp, 1)) (hd : decode bc (pc + 1) = .ok (.ifCond .gt o, 3)) (hpY : ((pc + 1 : Nat) : Int) + o = (pcY : Int)) (hpN : pc + 1 + 3 = pcN) (kY : y.toInt < x.toInt → Ends p.tables e below Fz (T.setTop (mkF m pcY Ls st))) (kN : x.toInt ≤ y.toInt → Ends p.tables e below Fz (T.setTop (mkF m pcN Ls st))) : Ends p.tables e below Fz (T.setTop (mkF m pc Ls (.long y :: .long x :: st))) := by
  subst hpN; by_cases h : y < x
  · exact Ends.of (fun _ q => Jvm.Free.XT.lcmp X.here hx rfl (hb hby hc) rfl (XS.ifYes X.here hx rfl (pc0 := pc + 1) (pc' := pcY) rfl (hb hby hd) rfl (Jvm.Free.XT.ll_gt_t h) (by rw [hpY]; exact Int.natCast_nonneg _) (by rw [hpY]; rfl) q)) (kY (Int64.lt_iff_toInt_lt.mp h))
  · exact Ends.of (fun _ q => Jvm.Free.XT.lcmp X.here hx rfl (hb hby hc) rfl (XS.ifNo X.here hx rfl (hb hby hd) rfl (Jvm.Free.XT.ll_gt_f h) q)) (kN (Int.not_lt.mp fun q => h (Int64.lt_iff_toInt_lt.mpr q)))
theorem own_ret (X : Stand p l e R s m args below meth c T locs cells slots) (hx : p.tables.exec = Jvm.exec) (hby : c.code = bc) {v : Value} {t : FieldType} {i : Instr} (hret : meth.sig.returnType = some t) (hk : meth.locks = false) (hd : decode bc pc = .ok (i, 1)) (v' : Value) (hn : narrow t v = v')
    (hi : (i = .ireturn ∧ (t = .int ∨ t = .boolean ∨ t = .byte ∨ t = .char ∨ t = .short) ∧ ∃ z, v = .int z) ∨ (i = .lreturn ∧ t = .long ∧ ∃ z, v = .long z) ∨ (i = .areturn ∧ t.isReference = true ∧ v.isRef = true))
    (hC : cells ≤ C) (hS : slots ≤ S) (q : Q (some v') T.heap locs) : Ends p.tables e below (OwnFin s Q C S) (T.setTop (mkF m pc Ls (v :: st))) := by
  obtain ⟨fs, hr, hrun, hended, hW, hsame⟩ := X.leave (v := some v') (fun h => by rw [hret] at h; cases h) hk
  refine ⟨_, _, ?_, hrun, hended, _, _, rfl, q, ⟨_, rfl⟩, hW, hsame.mono hC hS⟩
  have hm' : T.vm.method? m = some meth := X.method'
  show Steps p.tables e below (T.setTop { method := m, pc := pc, locals := Ls, stack := v :: st, locked := none }) _
  have hd' := hb hby hd
  rcases hi with ⟨rfl, ht, z, rfl⟩ | ⟨rfl, rfl, z, rfl⟩ | ⟨rfl, ht, hv⟩
  · rcases ht with rfl | rfl | rfl | rfl | rfl <;> (jvm_step X.here [X.here.top, hx, hd', hm', hret, hn]; first | (intro acts; rw [hr _ acts rfl rfl rfl]) | rw [hr _ _ rfl rfl rfl]) <;> exact Steps.refl _
  · have hn2 : Value.long z = v' := hn
    subst hn2
    jvm_step X.here [X.here.top, hx, hd', hm', hret, hn]
    first | (intro acts; rw [hr _ acts rfl rfl rfl]) | rw [hr _ _ rfl rfl rfl]
    exact Steps.refl _
  · have hn2 : v = v' := by rw [← hn]; rcases ref_cases hv with rfl | ⟨z, rfl⟩ <;> cases t <;> rfl
    subst hn2
    jvm_step X.here [X.here.top, hx, hd', hm', hret, hn, ht, hv]
    first | (intro acts; rw [hr _ acts rfl rfl rfl]) | rw [hr _ _ rfl rfl rfl]
    exact Steps.refl _
end Own
section OwnH
variable {p : Program} {l : Launch} {e : Env} {R : Room} {s : State} {m : MethodId} {args : Array Value} {below : List Frame} {meth : Method} {c : Code} {T : State} {locs : List Loc} {cells slots : Nat}
variable {Fz : Outcome → State → Prop} {bc : ByteArray} {pc pc' : Nat} {Ls Ls' : Array Slot} {st : List Value}
variable {Z : State} {a0 : Array Value} {h h0 : Heap} {n0 : Nat}
abbrev OwnMet (l : Launch) (Z : State) (y : MethodName) (bytes : ByteArray) (maxL : Nat) (rt : Option FieldType) (ws : List Jvm.Cond) (rm : Room) (as' : Array Value) (h0 : Heap) (Qc : Option Value → Heap → List Loc → Prop) : Prop :=
  MetFree l y (head1 (Jvm.Cond.code y bytes maxL rt :: ws) rm) (fun a U => a = as' ∧ Z.Warmed39 U.vm ∧ U.heap = h0) (fun _ _ _ _ _ => True) (fun _ U o U' => ∃ v L, o = .returned v ∧ Qc v U'.heap L ∧ FrameEnd U o U' L rm.cells rm.slots)
theorem own_body {y : MethodName} {bytes : ByteArray} {maxL : Nat} {rt : Option FieldType} {ws : List Jvm.Cond} {rm : Room} {as' : Array Value} {Qc : Option Value → Heap → List Loc → Prop} {Ls0 : Array Slot} (hpl : plainFor y = true) (hef : ∀ m : MethodId, entryFrame m as' maxL = mkF m 0 Ls0 [])
    (body : ∀ (p : Program) (e : Env) (s : State) (m : MethodId) (below : List Frame) (meth : Method) (c : Code) (s₁ : State), Stand p l e rm s m as' below meth c s₁ [] 0 0 → p.tables.exec = Jvm.exec → c.code = bytes → c.maxLocals = maxL → s.vm.findClass y.cls = some m.cls → meth.name = y.name → meth.sig.returnType = rt → meth.locks = false → Z.Warmed39 s.vm → s₁.heap = h0 → Ends p.tables e below (OwnFin s Qc rm.cells rm.slots) (s₁.setTop (mkF m 0 Ls0 []))) :
    OwnMet l Z y bytes maxL rt ws rm as' h0 Qc := by
  refine MetFree.of_bodySF hpl hisR ?_
  intro p e s m args below meth c s₁ Bd hml0 hP hK
  obtain ⟨rfl, hZ, hh⟩ := hP
  have e0 : s₁.heap = h0 := by rw [← hh, Bd.state]; rfl
  rw [hef]
  exact body p e s m below meth c s₁ (Stand.of_body Bd) Bd.exec Bd.bytes hml0 (findClass_of_methodNamed Bd.named) (name_of_methodNamed Bd.named Bd.method).1 Bd.returns Bd.notSynchronized hZ e0
theorem own_static (X : Stand p l e R s m args below meth c T locs cells slots) (hx : p.tables.exec = Jvm.exec) (hby : c.code = bc) (hZ : Z.Warmed39 s.vm) {own : String} {index : Nat} {y : MethodName} {bytes : ByteArray} {maxL : Nat} {rt r : Option FieldType} {ps : List FieldType} {rm : Room} {argsL rest : List Value} {Qc : Option Value → Heap → List Loc → Prop} {W : Nat}
    (hown : s.vm.findClass own = some m.cls) (w1 : (Jvm.Cond.methodLink own index y).before a0 Z = true) (w2 : (Jvm.Cond.static y).before a0 Z = true) (w3 : (Jvm.Cond.initialized y.cls).before a0 Z = true) (w4 : (Jvm.Cond.code y bytes maxL rt).before a0 Z = true) (hy : y.cls ≠ "java/lang/invoke/MethodHandle" ∧ y.cls ≠ "java/lang/invoke/VarHandle")
    (hM : OwnMet l Z y bytes maxL rt [] rm argsL.toArray h Qc) (eT : T.heap = h) (hml : Ls.size = c.maxLocals) (hlen : parseMethodDescriptor y.desc = some ⟨ps, r⟩) (hl : argsL.length = ps.length) (hf : rm.frames + 1 ≤ R.frames) (hW : (rest.map fun v => v.category).sum ≤ W) (hlo : W + (maxL + 11) + rm.locals ≤ R.locals) (hc : cells + rm.cells ≤ R.cells) (hs : slots + rm.slots ≤ R.slots)
    (hd : decode bc pc = .ok (.invokestatic index, 3)) (hp : pc + 3 = pc') (hst : st = argsL.reverse ++ rest)
    (kt : ∀ v T' L, Stand p l e R s m args below meth c T' (locs ++ L) (cells + rm.cells) (slots + rm.slots) → Qc v T'.heap L → Ends p.tables e below Fz (T'.setTop (mkF m pc' Ls (v.toList ++ rest)))) : Ends p.tables e below Fz (T.setTop (mkF m pc Ls st)) := by
  subst hp hst
  obtain ⟨v, vm₁, ⟨T', L', k', n'⟩, -, X', ⟨Lc, hQ, l', y', z'⟩, st⟩ := Jvm.LawKit.callS X hx (y := y) hown (mvT hZ w1) (mvT hZ w2) (mvT hZ w3) (mvT hZ w4) hy (backOf (W := W) hM hZ w4 w3 hf hlo) (g := mkF m pc Ls (argsL.reverse ++ rest)) rfl hml (argsL := argsL) (rest := rest) (lenOf hlen hl) rfl (by show 2 * 0 + _ ≤ _; omega) (hb hby hd) (fun _ _ => ⟨rfl, eT, hc, hs⟩)
  dsimp only [Pt.U, Pt.locs, Pt.cells, Pt.slots] at X' l' y' z' st hQ
  subst l' y' z'
  exact Ends.of st (kt v T' Lc X' hQ)
end OwnH

def own_le (d n : Int64) : Int32 := if (d - n).toInt ≤ 0 then 1 else 0
theorem own_le1 {d n : Int64} (h : (d - n).toInt ≤ 0) : own_le d n = 1 := by rw [own_le, if_pos h]
theorem own_le0 {d n : Int64} (h : ¬ (d - n).toInt ≤ 0) : own_le d n = 0 := by rw [own_le, if_neg h]
theorem own_shift (d n k : Int64) : own_le (d + k) (n + k) = own_le d n := by
  have e : (d + k - (n + k)).toInt = (d - n).toInt := by
    have k1 := c_lsub (d + k) (n + k); have k2 := c_ladd d k; have k3 := c_ladd n k; have k4 := c_lsub d n
    have r1 := rng64 (d + k - (n + k)); have r2 := rng64 (d - n)
    omega
  simp only [own_le, e]
theorem own_base (d : Int64) : (d - 0).toInt = d.toInt := by
  have k1 := c_lsub d 0; have k0 : (0 : Int64).toInt = 0 := rfl; have r1 := rng64 (d - 0); have r2 := rng64 d
  omega
theorem own_self (n : Int64) : own_le n n = 1 := own_le1 (by
  have k1 := c_lsub n n; have r1 := rng64 (n - n)
  omega)
theorem own_plain (d n : Int64) : (d >>> ((2 : Int32).toInt64 &&& 63) - n >>> ((2 : Int32).toInt64 &&& 63)).toInt = (d >>> ((2 : Int32).toInt64 &&& 63)).toInt - (n >>> ((2 : Int32).toInt64 &&& 63)).toInt := by
  have kk : ((2 : Int32).toInt64 &&& (63 : Int64)) = ((2 : Int32) &&& 0x3f).toInt64 := by decide
  rw [kk]
  have k1 := c_lsub (d >>> ((2 : Int32) &&& 0x3f).toInt64) (n >>> ((2 : Int32) &&& 0x3f).toInt64)
  have k2 := c_lshr d (2 : Int32) 2 (by decide); have k3 := c_lshr n (2 : Int32) 2 (by decide)
  have r1 := rng64 d; have r2 := rng64 n; have r3 := rng64 (d >>> ((2 : Int32) &&& 0x3f).toInt64 - n >>> ((2 : Int32) &&& 0x3f).toInt64)
  omega
theorem tw_0 : (Jvm.Cond.methodLink "com/example/lyrebird/lyrebird/lease/LeasesHasPassedPinLaw" (7 : Nat) ({ cls := "com/example/lyrebird/lyrebird/lease/Leases", name := "hasPassed", desc := "(JJ)Z" } : Jvm.MethodName)) ∈ tables_1 := List.mem_of_getElem? (i := 0) rfl
theorem tw_1 : (Jvm.Cond.static ({ cls := "com/example/lyrebird/lyrebird/lease/Leases", name := "hasPassed", desc := "(JJ)Z" } : Jvm.MethodName)) ∈ tables_1 := List.mem_of_getElem? (i := 1) rfl
theorem tw_2 : (Jvm.Cond.initialized "com/example/lyrebird/lyrebird/lease/Leases") ∈ tables_1 := List.mem_of_getElem? (i := 2) rfl
theorem tw_3 : (Jvm.Cond.code ({ cls := "com/example/lyrebird/lyrebird/lease/Leases", name := "hasPassed", desc := "(JJ)Z" } : Jvm.MethodName) prog_6_method_4_code (4 : Nat) (Option.some Jvm.ClassFile.FieldType.boolean)) ∈ tables_1 := List.mem_of_getElem? (i := 3) rfl
theorem d1_0 : decode prog_6_method_4_code 0 = .ok (.lload_n 0, 1) := by decide +kernel
theorem d1_1 : decode prog_6_method_4_code 1 = .ok (.lload_n 2, 1) := by decide +kernel
theorem d1_2 : decode prog_6_method_4_code 2 = .ok (.lsub, 1) := by decide +kernel
theorem d1_3 : decode prog_6_method_4_code 3 = .ok (.lconst 0, 1) := by decide +kernel
theorem d1_4 : decode prog_6_method_4_code 4 = .ok (.lcmp, 1) := by decide +kernel
theorem d1_5 : decode prog_6_method_4_code 5 = .ok (.ifCond .gt 7, 3) := by decide +kernel
theorem d1_8 : decode prog_6_method_4_code 8 = .ok (.iconst 1, 1) := by decide +kernel
theorem d1_9 : decode prog_6_method_4_code 9 = .ok (.goto 4, 3) := by decide +kernel
theorem d1_12 : decode prog_6_method_4_code 12 = .ok (.iconst 0, 1) := by decide +kernel
theorem d1_13 : decode prog_6_method_4_code 13 = .ok (.ireturn, 1) := by decide +kernel
theorem pd_0 : parseMethodDescriptor "(JJ)Z" = some ⟨[.long, .long], some .boolean⟩ := by decide +kernel
theorem pn_0 : plainName "com/example/lyrebird/lyrebird/lease/Leases" = true := by first | (simp [plainName, overriddenIn]; done) | decide +kernel
theorem pn_1 : plainName "com/example/lyrebird/lyrebird/lease/LeasesHasPassedPinLaw" = true := by first | (simp [plainName, overriddenIn]; done) | decide +kernel
theorem ef_1 (m : MethodId) (x0 : Int64) (x1 : Int64) : entryFrame m #[(.long x0), (.long x1)] 4 = mkF m 0 #[.val (.long x0), .second, .val (.long x1), .second] [] := by first | (simp [entryFrame, mkF, argsToLocals, Value.category]; done) | rfl
theorem ef_0 (m : MethodId) (x0 : Int64) (x1 : Int64) (x2 : Int64) : entryFrame m #[(.long x0), (.long x1), (.long x2)] maxLocals = mkF m 0 #[.val (.long x0), .second, .val (.long x1), .second, .val (.long x2), .second, .unset, .unset, .unset, .unset, .unset, .unset, .unset, .unset, .unset] [] := by first | (simp [entryFrame, mkF, argsToLocals, Value.category, maxLocals]; done) | rfl
set_option maxRecDepth 65536 in
set_option maxHeartbeats 40000000 in
theorem rm1 (l : Launch) (Z : State) (a0 : Array Value) (hw : ∀ d ∈ tables_1, d.before a0 Z = true) (x0 : Int64) (x1 : Int64) (h0 : Heap) :
    OwnMet l Z (⟨"com/example/lyrebird/lyrebird/lease/Leases", "hasPassed", "(JJ)Z"⟩ : MethodName) prog_6_method_4_code 4 (some .boolean) [] ({ frames := 0, cells := 0, slots := 0, locals := 0 } : Room) #[(.long x0), (.long x1)] h0 (fun v h L => v = some (.int (own_le x0 x1)) ∧ L = [] ∧ h = h0) := by
  refine own_body (plainFor_of_name pn_0) (fun m => ef_1 m x0 x1) ?_
  intro p e s m below meth c s₁ X0 hx hby hml hown hnm hret hlk hZ e0
  replace hown : s.vm.findClass "com/example/lyrebird/lyrebird/lease/Leases" = some m.cls := hown
  replace hml : c.maxLocals = 4 := hml
  show Ends p.tables e below _ (s₁.setTop (mkF m 0 #[.val (.long x0), .second, .val (.long x1), .second] []))
  refine own_lloadN X0 hx hby d1_0 rfl rfl ?_
  refine own_lloadN X0 hx hby d1_1 rfl rfl ?_
  refine own_lsub X0 hx hby d1_2 rfl ?_
  refine own_lconst X0 hx hby d1_3 rfl (0 : Int64) rfl ?_
  refine own_lcmp_gt X0 hx hby d1_4 d1_5 (pcY := 12) (pcN := 8) (by decide) rfl (fun (hc1 : 0 < (x0 - x1).toInt) => ?_) (fun (hc1 : (x0 - x1).toInt ≤ 0) => ?_)
  · -- pc 4: t
    refine own_iconst X0 hx hby d1_12 rfl (0 : Int32) rfl ?_
    refine own_ret X0 hx hby hret hlk d1_13 (.int (0 : Int32)) rfl (Or.inl ⟨rfl, by simp, _, rfl⟩) (by decide) (by decide) ?_
    refine ⟨?_, rfl, e0⟩
    first | rw [own_le1 (by omega)] | rw [own_le0 (by omega)]
  · -- pc 4: f
    refine own_iconst X0 hx hby d1_8 rfl (1 : Int32) rfl ?_
    refine own_goto X0 hx hby d1_9 (pc' := 13) (by decide) ?_
    refine own_ret X0 hx hby hret hlk d1_13 (.int (1 : Int32)) rfl (Or.inl ⟨rfl, by simp, _, rfl⟩) (by decide) (by decide) ?_
    refine ⟨?_, rfl, e0⟩
    first | rw [own_le1 (by omega)] | rw [own_le0 (by omega)]
set_option maxRecDepth 65536 in
set_option maxHeartbeats 40000000 in
theorem rm0 (l : Launch) (Z : State) (a0 : Array Value) (hw : ∀ d ∈ tables_1, d.before a0 Z = true) (x0 : Int64) (x1 : Int64) (x2 : Int64) (h0 : Heap) (n0 : Nat) :
    OwnMet l Z x code maxLocals ret tables_1 room_1 #[(.long x0), (.long x1), (.long x2)] h0 (fun v h L => v = some (.int 1) ∧ Fr n0 L) := by
  refine own_body (plainFor_of_name pn_1) (fun m => ef_0 m x0 x1 x2) ?_
  intro p e s m below meth c s₁ X0 hx hby hml hown hnm hret hlk hZ e0
  replace hown : s.vm.findClass "com/example/lyrebird/lyrebird/lease/LeasesHasPassedPinLaw" = some m.cls := hown
  replace hml : c.maxLocals = 15 := hml
  have N0 := Fr.nil n0
  show Ends p.tables e below _ (s₁.setTop (mkF m 0 #[.val (.long x0), .second, .val (.long x1), .second, .val (.long x2), .second, .unset, .unset, .unset, .unset, .unset, .unset, .unset, .unset, .unset] []))
  refine own_lloadN X0 hx hby at_0 rfl rfl ?_
  refine own_lloadN X0 hx hby at_1 rfl rfl ?_
  refine own_static X0 hx hby hZ (argsL := [(.long x0), (.long x1)]) (rest := []) hown (hw _ tw_0) (hw _ tw_1) (hw _ tw_2) (hw _ tw_3) (by decide) (rm1 l Z a0 hw x0 x1 h0) e0 (by rw [hml]; rfl) pd_0 rfl (by decide) (W := 0) (Nat.le_refl _) (by decide) (by decide) (by decide) at_2 rfl rfl (fun v2 T2 L2 X2 hQ2 => ?_)
  obtain ⟨rfl, rfl, e2⟩ := hQ2
  show Ends p.tables e below _ (T2.setTop (mkF m 5 #[.val (.long x0), .second, .val (.long x1), .second, .val (.long x2), .second, .unset, .unset, .unset, .unset, .unset, .unset, .unset, .unset, .unset] [(.int (own_le x0 x1))]))
  refine own_istore X2 hx hby at_5 rfl #[.val (.long x0), .second, .val (.long x1), .second, .val (.long x2), .second, .val (.int (own_le x0 x1)), .unset, .unset, .unset, .unset, .unset, .unset, .unset, .unset] rfl ?_
  refine own_lloadN X2 hx hby at_7 rfl rfl ?_
  refine own_lload X2 hx hby at_8 rfl rfl ?_
  refine own_ladd X2 hx hby at_10 rfl ?_
  refine own_lloadN X2 hx hby at_11 rfl rfl ?_
  refine own_lload X2 hx hby at_12 rfl rfl ?_
  refine own_ladd X2 hx hby at_14 rfl ?_
  refine own_static X2 hx hby hZ (argsL := [(.long (x0 + x2)), (.long (x1 + x2))]) (rest := []) hown (hw _ tw_0) (hw _ tw_1) (hw _ tw_2) (hw _ tw_3) (by decide) (rm1 l Z a0 hw (x0 + x2) (x1 + x2) h0) e2 (by rw [hml]; rfl) pd_0 rfl (by decide) (W := 0) (Nat.le_refl _) (by decide) (by decide) (by decide) at_15 rfl rfl (fun v3 T3 L3 X3 hQ3 => ?_)
  obtain ⟨rfl, rfl, e3⟩ := hQ3
  show Ends p.tables e below _ (T3.setTop (mkF m 18 #[.val (.long x0), .second, .val (.long x1), .second, .val (.long x2), .second, .val (.int (own_le x0 x1)), .unset, .unset, .unset, .unset, .unset, .unset, .unset, .unset] [(.int (own_le (x0 + x2) (x1 + x2)))]))
  refine own_iload X3 hx hby at_18 rfl rfl ?_
  refine own_icmp_ne X3 hx hby at_20 (pcY := 27) (pcN := 23) (by decide) rfl (fun (hc4 : ¬ (own_le (x0 + x2) (x1 + x2)) = (own_le x0 x1)) => False.elim (by exact hc4 (own_shift _ _ _))) (fun (hc4 : (own_le (x0 + x2) (x1 + x2)) = (own_le x0 x1)) => ?_)
  refine own_iconst X3 hx hby at_23 rfl (1 : Int32) rfl ?_
  refine own_goto X3 hx hby at_24 (pc' := 28) (by decide) ?_
  refine own_istore X3 hx hby at_28 rfl #[.val (.long x0), .second, .val (.long x1), .second, .val (.long x2), .second, .val (.int (own_le x0 x1)), .val (.int (1 : Int32)), .unset, .unset, .unset, .unset, .unset, .unset, .unset] rfl ?_
  refine own_lloadN X3 hx hby at_30 rfl rfl ?_
  refine own_lconst X3 hx hby at_31 rfl (0 : Int64) rfl ?_
  refine own_static X3 hx hby hZ (argsL := [(.long x0), (.long (0 : Int64))]) (rest := []) hown (hw _ tw_0) (hw _ tw_1) (hw _ tw_2) (hw _ tw_3) (by decide) (rm1 l Z a0 hw x0 (0 : Int64) h0) e3 (by rw [hml]; rfl) pd_0 rfl (by decide) (W := 0) (Nat.le_refl _) (by decide) (by decide) (by decide) at_32 rfl rfl (fun v5 T5 L5 X5 hQ5 => ?_)
  obtain ⟨rfl, rfl, e5⟩ := hQ5
  show Ends p.tables e below _ (T5.setTop (mkF m 35 #[.val (.long x0), .second, .val (.long x1), .second, .val (.long x2), .second, .val (.int (own_le x0 x1)), .val (.int (1 : Int32)), .unset, .unset, .unset, .unset, .unset, .unset, .unset] [(.int (own_le x0 (0 : Int64)))]))
  refine own_lloadN X5 hx hby at_35 rfl rfl ?_
  refine own_lconst X5 hx hby at_36 rfl (0 : Int64) rfl ?_
  refine own_lcmp_gt X5 hx hby at_37 at_38 (pcY := 45) (pcN := 41) (by decide) rfl (fun (hc6 : 0 < x0.toInt) => ?_) (fun (hc6 : x0.toInt ≤ 0) => ?_)
  · -- pc 37: t
    refine own_iconst X5 hx hby at_45 rfl (0 : Int32) rfl ?_
    refine own_icmp_ne X5 hx hby at_46 (pcY := 53) (pcN := 49) (by decide) rfl (fun (hc7 : ¬ (own_le x0 (0 : Int64)) = (0 : Int32)) => False.elim (by have k := own_base x0; exact hc7 (own_le0 (by omega)))) (fun (hc7 : (own_le x0 (0 : Int64)) = (0 : Int32)) => ?_)
    refine own_iconst X5 hx hby at_49 rfl (1 : Int32) rfl ?_
    refine own_goto X5 hx hby at_50 (pc' := 54) (by decide) ?_
    refine own_istore X5 hx hby at_54 rfl #[.val (.long x0), .second, .val (.long x1), .second, .val (.long x2), .second, .val (.int (own_le x0 x1)), .val (.int (1 : Int32)), .val (.int (1 : Int32)), .unset, .unset, .unset, .unset, .unset, .unset] rfl ?_
    refine own_lloadN X5 hx hby at_56 rfl rfl ?_
    refine own_iconst X5 hx hby at_57 rfl (2 : Int32) rfl ?_
    refine own_lshr X5 hx hby at_58 rfl ?_
    refine own_lstore X5 hx hby at_59 rfl #[.val (.long x0), .second, .val (.long x1), .second, .val (.long x2), .second, .val (.int (own_le x0 x1)), .val (.int (1 : Int32)), .val (.int (1 : Int32)), .val (.long (x0 >>> ((2 : Int32).toInt64 &&& 63))), .second, .unset, .unset, .unset, .unset] rfl ?_
    refine own_lloadN X5 hx hby at_61 rfl rfl ?_
    refine own_iconst X5 hx hby at_62 rfl (2 : Int32) rfl ?_
    refine own_lshr X5 hx hby at_63 rfl ?_
    refine own_lstore X5 hx hby at_64 rfl #[.val (.long x0), .second, .val (.long x1), .second, .val (.long x2), .second, .val (.int (own_le x0 x1)), .val (.int (1 : Int32)), .val (.int (1 : Int32)), .val (.long (x0 >>> ((2 : Int32).toInt64 &&& 63))), .second, .val (.long (x1 >>> ((2 : Int32).toInt64 &&& 63))), .second, .unset, .unset] rfl ?_
    refine own_lload X5 hx hby at_66 rfl rfl ?_
    refine own_lload X5 hx hby at_68 rfl rfl ?_
    refine own_static X5 hx hby hZ (argsL := [(.long (x0 >>> ((2 : Int32).toInt64 &&& 63))), (.long (x1 >>> ((2 : Int32).toInt64 &&& 63)))]) (rest := []) hown (hw _ tw_0) (hw _ tw_1) (hw _ tw_2) (hw _ tw_3) (by decide) (rm1 l Z a0 hw (x0 >>> ((2 : Int32).toInt64 &&& 63)) (x1 >>> ((2 : Int32).toInt64 &&& 63)) h0) e5 (by rw [hml]; rfl) pd_0 rfl (by decide) (W := 0) (Nat.le_refl _) (by decide) (by decide) (by decide) at_70 rfl rfl (fun v8 T8 L8 X8 hQ8 => ?_)
    obtain ⟨rfl, rfl, e8⟩ := hQ8
    show Ends p.tables e below _ (T8.setTop (mkF m 73 #[.val (.long x0), .second, .val (.long x1), .second, .val (.long x2), .second, .val (.int (own_le x0 x1)), .val (.int (1 : Int32)), .val (.int (1 : Int32)), .val (.long (x0 >>> ((2 : Int32).toInt64 &&& 63))), .second, .val (.long (x1 >>> ((2 : Int32).toInt64 &&& 63))), .second, .unset, .unset] [(.int (own_le (x0 >>> ((2 : Int32).toInt64 &&& 63)) (x1 >>> ((2 : Int32).toInt64 &&& 63))))]))
    refine own_lload X8 hx hby at_73 rfl rfl ?_
    refine own_lload X8 hx hby at_75 rfl rfl ?_
    refine own_lcmp_gt X8 hx hby at_77 at_78 (pcY := 85) (pcN := 81) (by decide) rfl (fun (hc9 : (x1 >>> ((2 : Int32).toInt64 &&& 63)).toInt < (x0 >>> ((2 : Int32).toInt64 &&& 63)).toInt) => ?_) (fun (hc9 : (x0 >>> ((2 : Int32).toInt64 &&& 63)).toInt ≤ (x1 >>> ((2 : Int32).toInt64 &&& 63)).toInt) => ?_)
    · -- pc 77: t
      refine own_iconst X8 hx hby at_85 rfl (0 : Int32) rfl ?_
      refine own_icmp_ne X8 hx hby at_86 (pcY := 93) (pcN := 89) (by decide) rfl (fun (hc10 : ¬ (own_le (x0 >>> ((2 : Int32).toInt64 &&& 63)) (x1 >>> ((2 : Int32).toInt64 &&& 63))) = (0 : Int32)) => False.elim (by have k := own_plain x0 x1; exact hc10 (own_le0 (by omega)))) (fun (hc10 : (own_le (x0 >>> ((2 : Int32).toInt64 &&& 63)) (x1 >>> ((2 : Int32).toInt64 &&& 63))) = (0 : Int32)) => ?_)
      refine own_iconst X8 hx hby at_89 rfl (1 : Int32) rfl ?_
      refine own_goto X8 hx hby at_90 (pc' := 94) (by decide) ?_
      refine own_istore X8 hx hby at_94 rfl #[.val (.long x0), .second, .val (.long x1), .second, .val (.long x2), .second, .val (.int (own_le x0 x1)), .val (.int (1 : Int32)), .val (.int (1 : Int32)), .val (.long (x0 >>> ((2 : Int32).toInt64 &&& 63))), .second, .val (.long (x1 >>> ((2 : Int32).toInt64 &&& 63))), .second, .val (.int (1 : Int32)), .unset] rfl ?_
      refine own_lloadN X8 hx hby at_96 rfl rfl ?_
      refine own_lloadN X8 hx hby at_97 rfl rfl ?_
      refine own_static X8 hx hby hZ (argsL := [(.long x1), (.long x1)]) (rest := []) hown (hw _ tw_0) (hw _ tw_1) (hw _ tw_2) (hw _ tw_3) (by decide) (rm1 l Z a0 hw x1 x1 h0) e8 (by rw [hml]; rfl) pd_0 rfl (by decide) (W := 0) (Nat.le_refl _) (by decide) (by decide) (by decide) at_98 rfl rfl (fun v11 T11 L11 X11 hQ11 => ?_)
      obtain ⟨rfl, rfl, e11⟩ := hQ11
      show Ends p.tables e below _ (T11.setTop (mkF m 101 #[.val (.long x0), .second, .val (.long x1), .second, .val (.long x2), .second, .val (.int (own_le x0 x1)), .val (.int (1 : Int32)), .val (.int (1 : Int32)), .val (.long (x0 >>> ((2 : Int32).toInt64 &&& 63))), .second, .val (.long (x1 >>> ((2 : Int32).toInt64 &&& 63))), .second, .val (.int (1 : Int32)), .unset] [(.int (own_le x1 x1))]))
      refine own_istore X11 hx hby at_101 rfl #[.val (.long x0), .second, .val (.long x1), .second, .val (.long x2), .second, .val (.int (own_le x0 x1)), .val (.int (1 : Int32)), .val (.int (1 : Int32)), .val (.long (x0 >>> ((2 : Int32).toInt64 &&& 63))), .second, .val (.long (x1 >>> ((2 : Int32).toInt64 &&& 63))), .second, .val (.int (1 : Int32)), .val (.int (own_le x1 x1))] rfl ?_
      refine own_iload X11 hx hby at_103 rfl rfl ?_
      refine own_if_eq X11 hx hby at_105 (pcY := 127) (pcN := 108) (by decide) rfl (fun (hc12 : (1 : Int32) = (0 : Int32)) => False.elim (by exact absurd hc12 (by decide))) (fun (hc12 : ¬ (1 : Int32) = (0 : Int32)) => ?_)
      refine own_iload X11 hx hby at_108 rfl rfl ?_
      refine own_if_eq X11 hx hby at_110 (pcY := 127) (pcN := 113) (by decide) rfl (fun (hc13 : (1 : Int32) = (0 : Int32)) => False.elim (by exact absurd hc13 (by decide))) (fun (hc13 : ¬ (1 : Int32) = (0 : Int32)) => ?_)
      refine own_iload X11 hx hby at_113 rfl rfl ?_
      refine own_if_eq X11 hx hby at_115 (pcY := 127) (pcN := 118) (by decide) rfl (fun (hc14 : (1 : Int32) = (0 : Int32)) => False.elim (by exact absurd hc14 (by decide))) (fun (hc14 : ¬ (1 : Int32) = (0 : Int32)) => ?_)
      refine own_iload X11 hx hby at_118 rfl rfl ?_
      refine own_if_eq X11 hx hby at_120 (pcY := 127) (pcN := 123) (by decide) rfl (fun (hc15 : (own_le x1 x1) = (0 : Int32)) => False.elim (by rw [own_self] at hc15; exact absurd hc15 (by decide))) (fun (hc15 : ¬ (own_le x1 x1) = (0 : Int32)) => ?_)
      refine own_iconst X11 hx hby at_123 rfl (1 : Int32) rfl ?_
      refine own_goto X11 hx hby at_124 (pc' := 128) (by decide) ?_
      refine own_ret X11 hx hby hret hlk at_128 (.int (1 : Int32)) rfl (Or.inl ⟨rfl, by simp, _, rfl⟩) (by decide) (by decide) ?_
      exact ⟨rfl, (Fr.app (Fr.app (Fr.app (Fr.app (Fr.app N0 (Fr.nil _)) (Fr.nil _)) (Fr.nil _)) (Fr.nil _)) (Fr.nil _))⟩
    · -- pc 77: f
      refine own_iconst X8 hx hby at_81 rfl (1 : Int32) rfl ?_
      refine own_goto X8 hx hby at_82 (pc' := 86) (by decide) ?_
      refine own_icmp_ne X8 hx hby at_86 (pcY := 93) (pcN := 89) (by decide) rfl (fun (hc16 : ¬ (own_le (x0 >>> ((2 : Int32).toInt64 &&& 63)) (x1 >>> ((2 : Int32).toInt64 &&& 63))) = (1 : Int32)) => False.elim (by have k := own_plain x0 x1; exact hc16 (own_le1 (by omega)))) (fun (hc16 : (own_le (x0 >>> ((2 : Int32).toInt64 &&& 63)) (x1 >>> ((2 : Int32).toInt64 &&& 63))) = (1 : Int32)) => ?_)
      refine own_iconst X8 hx hby at_89 rfl (1 : Int32) rfl ?_
      refine own_goto X8 hx hby at_90 (pc' := 94) (by decide) ?_
      refine own_istore X8 hx hby at_94 rfl #[.val (.long x0), .second, .val (.long x1), .second, .val (.long x2), .second, .val (.int (own_le x0 x1)), .val (.int (1 : Int32)), .val (.int (1 : Int32)), .val (.long (x0 >>> ((2 : Int32).toInt64 &&& 63))), .second, .val (.long (x1 >>> ((2 : Int32).toInt64 &&& 63))), .second, .val (.int (1 : Int32)), .unset] rfl ?_
      refine own_lloadN X8 hx hby at_96 rfl rfl ?_
      refine own_lloadN X8 hx hby at_97 rfl rfl ?_
      refine own_static X8 hx hby hZ (argsL := [(.long x1), (.long x1)]) (rest := []) hown (hw _ tw_0) (hw _ tw_1) (hw _ tw_2) (hw _ tw_3) (by decide) (rm1 l Z a0 hw x1 x1 h0) e8 (by rw [hml]; rfl) pd_0 rfl (by decide) (W := 0) (Nat.le_refl _) (by decide) (by decide) (by decide) at_98 rfl rfl (fun v17 T17 L17 X17 hQ17 => ?_)
      obtain ⟨rfl, rfl, e17⟩ := hQ17
      show Ends p.tables e below _ (T17.setTop (mkF m 101 #[.val (.long x0), .second, .val (.long x1), .second, .val (.long x2), .second, .val (.int (own_le x0 x1)), .val (.int (1 : Int32)), .val (.int (1 : Int32)), .val (.long (x0 >>> ((2 : Int32).toInt64 &&& 63))), .second, .val (.long (x1 >>> ((2 : Int32).toInt64 &&& 63))), .second, .val (.int (1 : Int32)), .unset] [(.int (own_le x1 x1))]))
      refine own_istore X17 hx hby at_101 rfl #[.val (.long x0), .second, .val (.long x1), .second, .val (.long x2), .second, .val (.int (own_le x0 x1)), .val (.int (1 : Int32)), .val (.int (1 : Int32)), .val (.long (x0 >>> ((2 : Int32).toInt64 &&& 63))), .second, .val (.long (x1 >>> ((2 : Int32).toInt64 &&& 63))), .second, .val (.int (1 : Int32)), .val (.int (own_le x1 x1))] rfl ?_
      refine own_iload X17 hx hby at_103 rfl rfl ?_
      refine own_if_eq X17 hx hby at_105 (pcY := 127) (pcN := 108) (by decide) rfl (fun (hc18 : (1 : Int32) = (0 : Int32)) => False.elim (by exact absurd hc18 (by decide))) (fun (hc18 : ¬ (1 : Int32) = (0 : Int32)) => ?_)
      refine own_iload X17 hx hby at_108 rfl rfl ?_
      refine own_if_eq X17 hx hby at_110 (pcY := 127) (pcN := 113) (by decide) rfl (fun (hc19 : (1 : Int32) = (0 : Int32)) => False.elim (by exact absurd hc19 (by decide))) (fun (hc19 : ¬ (1 : Int32) = (0 : Int32)) => ?_)
      refine own_iload X17 hx hby at_113 rfl rfl ?_
      refine own_if_eq X17 hx hby at_115 (pcY := 127) (pcN := 118) (by decide) rfl (fun (hc20 : (1 : Int32) = (0 : Int32)) => False.elim (by exact absurd hc20 (by decide))) (fun (hc20 : ¬ (1 : Int32) = (0 : Int32)) => ?_)
      refine own_iload X17 hx hby at_118 rfl rfl ?_
      refine own_if_eq X17 hx hby at_120 (pcY := 127) (pcN := 123) (by decide) rfl (fun (hc21 : (own_le x1 x1) = (0 : Int32)) => False.elim (by rw [own_self] at hc21; exact absurd hc21 (by decide))) (fun (hc21 : ¬ (own_le x1 x1) = (0 : Int32)) => ?_)
      refine own_iconst X17 hx hby at_123 rfl (1 : Int32) rfl ?_
      refine own_goto X17 hx hby at_124 (pc' := 128) (by decide) ?_
      refine own_ret X17 hx hby hret hlk at_128 (.int (1 : Int32)) rfl (Or.inl ⟨rfl, by simp, _, rfl⟩) (by decide) (by decide) ?_
      exact ⟨rfl, (Fr.app (Fr.app (Fr.app (Fr.app (Fr.app N0 (Fr.nil _)) (Fr.nil _)) (Fr.nil _)) (Fr.nil _)) (Fr.nil _))⟩
  · -- pc 37: f
    refine own_iconst X5 hx hby at_41 rfl (1 : Int32) rfl ?_
    refine own_goto X5 hx hby at_42 (pc' := 46) (by decide) ?_
    refine own_icmp_ne X5 hx hby at_46 (pcY := 53) (pcN := 49) (by decide) rfl (fun (hc22 : ¬ (own_le x0 (0 : Int64)) = (1 : Int32)) => False.elim (by have k := own_base x0; exact hc22 (own_le1 (by omega)))) (fun (hc22 : (own_le x0 (0 : Int64)) = (1 : Int32)) => ?_)
    refine own_iconst X5 hx hby at_49 rfl (1 : Int32) rfl ?_
    refine own_goto X5 hx hby at_50 (pc' := 54) (by decide) ?_
    refine own_istore X5 hx hby at_54 rfl #[.val (.long x0), .second, .val (.long x1), .second, .val (.long x2), .second, .val (.int (own_le x0 x1)), .val (.int (1 : Int32)), .val (.int (1 : Int32)), .unset, .unset, .unset, .unset, .unset, .unset] rfl ?_
    refine own_lloadN X5 hx hby at_56 rfl rfl ?_
    refine own_iconst X5 hx hby at_57 rfl (2 : Int32) rfl ?_
    refine own_lshr X5 hx hby at_58 rfl ?_
    refine own_lstore X5 hx hby at_59 rfl #[.val (.long x0), .second, .val (.long x1), .second, .val (.long x2), .second, .val (.int (own_le x0 x1)), .val (.int (1 : Int32)), .val (.int (1 : Int32)), .val (.long (x0 >>> ((2 : Int32).toInt64 &&& 63))), .second, .unset, .unset, .unset, .unset] rfl ?_
    refine own_lloadN X5 hx hby at_61 rfl rfl ?_
    refine own_iconst X5 hx hby at_62 rfl (2 : Int32) rfl ?_
    refine own_lshr X5 hx hby at_63 rfl ?_
    refine own_lstore X5 hx hby at_64 rfl #[.val (.long x0), .second, .val (.long x1), .second, .val (.long x2), .second, .val (.int (own_le x0 x1)), .val (.int (1 : Int32)), .val (.int (1 : Int32)), .val (.long (x0 >>> ((2 : Int32).toInt64 &&& 63))), .second, .val (.long (x1 >>> ((2 : Int32).toInt64 &&& 63))), .second, .unset, .unset] rfl ?_
    refine own_lload X5 hx hby at_66 rfl rfl ?_
    refine own_lload X5 hx hby at_68 rfl rfl ?_
    refine own_static X5 hx hby hZ (argsL := [(.long (x0 >>> ((2 : Int32).toInt64 &&& 63))), (.long (x1 >>> ((2 : Int32).toInt64 &&& 63)))]) (rest := []) hown (hw _ tw_0) (hw _ tw_1) (hw _ tw_2) (hw _ tw_3) (by decide) (rm1 l Z a0 hw (x0 >>> ((2 : Int32).toInt64 &&& 63)) (x1 >>> ((2 : Int32).toInt64 &&& 63)) h0) e5 (by rw [hml]; rfl) pd_0 rfl (by decide) (W := 0) (Nat.le_refl _) (by decide) (by decide) (by decide) at_70 rfl rfl (fun v23 T23 L23 X23 hQ23 => ?_)
    obtain ⟨rfl, rfl, e23⟩ := hQ23
    show Ends p.tables e below _ (T23.setTop (mkF m 73 #[.val (.long x0), .second, .val (.long x1), .second, .val (.long x2), .second, .val (.int (own_le x0 x1)), .val (.int (1 : Int32)), .val (.int (1 : Int32)), .val (.long (x0 >>> ((2 : Int32).toInt64 &&& 63))), .second, .val (.long (x1 >>> ((2 : Int32).toInt64 &&& 63))), .second, .unset, .unset] [(.int (own_le (x0 >>> ((2 : Int32).toInt64 &&& 63)) (x1 >>> ((2 : Int32).toInt64 &&& 63))))]))
    refine own_lload X23 hx hby at_73 rfl rfl ?_
    refine own_lload X23 hx hby at_75 rfl rfl ?_
    refine own_lcmp_gt X23 hx hby at_77 at_78 (pcY := 85) (pcN := 81) (by decide) rfl (fun (hc24 : (x1 >>> ((2 : Int32).toInt64 &&& 63)).toInt < (x0 >>> ((2 : Int32).toInt64 &&& 63)).toInt) => ?_) (fun (hc24 : (x0 >>> ((2 : Int32).toInt64 &&& 63)).toInt ≤ (x1 >>> ((2 : Int32).toInt64 &&& 63)).toInt) => ?_)
    · -- pc 77: t
      refine own_iconst X23 hx hby at_85 rfl (0 : Int32) rfl ?_
      refine own_icmp_ne X23 hx hby at_86 (pcY := 93) (pcN := 89) (by decide) rfl (fun (hc25 : ¬ (own_le (x0 >>> ((2 : Int32).toInt64 &&& 63)) (x1 >>> ((2 : Int32).toInt64 &&& 63))) = (0 : Int32)) => False.elim (by have k := own_plain x0 x1; exact hc25 (own_le0 (by omega)))) (fun (hc25 : (own_le (x0 >>> ((2 : Int32).toInt64 &&& 63)) (x1 >>> ((2 : Int32).toInt64 &&& 63))) = (0 : Int32)) => ?_)
      refine own_iconst X23 hx hby at_89 rfl (1 : Int32) rfl ?_
      refine own_goto X23 hx hby at_90 (pc' := 94) (by decide) ?_
      refine own_istore X23 hx hby at_94 rfl #[.val (.long x0), .second, .val (.long x1), .second, .val (.long x2), .second, .val (.int (own_le x0 x1)), .val (.int (1 : Int32)), .val (.int (1 : Int32)), .val (.long (x0 >>> ((2 : Int32).toInt64 &&& 63))), .second, .val (.long (x1 >>> ((2 : Int32).toInt64 &&& 63))), .second, .val (.int (1 : Int32)), .unset] rfl ?_
      refine own_lloadN X23 hx hby at_96 rfl rfl ?_
      refine own_lloadN X23 hx hby at_97 rfl rfl ?_
      refine own_static X23 hx hby hZ (argsL := [(.long x1), (.long x1)]) (rest := []) hown (hw _ tw_0) (hw _ tw_1) (hw _ tw_2) (hw _ tw_3) (by decide) (rm1 l Z a0 hw x1 x1 h0) e23 (by rw [hml]; rfl) pd_0 rfl (by decide) (W := 0) (Nat.le_refl _) (by decide) (by decide) (by decide) at_98 rfl rfl (fun v26 T26 L26 X26 hQ26 => ?_)
      obtain ⟨rfl, rfl, e26⟩ := hQ26
      show Ends p.tables e below _ (T26.setTop (mkF m 101 #[.val (.long x0), .second, .val (.long x1), .second, .val (.long x2), .second, .val (.int (own_le x0 x1)), .val (.int (1 : Int32)), .val (.int (1 : Int32)), .val (.long (x0 >>> ((2 : Int32).toInt64 &&& 63))), .second, .val (.long (x1 >>> ((2 : Int32).toInt64 &&& 63))), .second, .val (.int (1 : Int32)), .unset] [(.int (own_le x1 x1))]))
      refine own_istore X26 hx hby at_101 rfl #[.val (.long x0), .second, .val (.long x1), .second, .val (.long x2), .second, .val (.int (own_le x0 x1)), .val (.int (1 : Int32)), .val (.int (1 : Int32)), .val (.long (x0 >>> ((2 : Int32).toInt64 &&& 63))), .second, .val (.long (x1 >>> ((2 : Int32).toInt64 &&& 63))), .second, .val (.int (1 : Int32)), .val (.int (own_le x1 x1))] rfl ?_
      refine own_iload X26 hx hby at_103 rfl rfl ?_
      refine own_if_eq X26 hx hby at_105 (pcY := 127) (pcN := 108) (by decide) rfl (fun (hc27 : (1 : Int32) = (0 : Int32)) => False.elim (by exact absurd hc27 (by decide))) (fun (hc27 : ¬ (1 : Int32) = (0 : Int32)) => ?_)
      refine own_iload X26 hx hby at_108 rfl rfl ?_
      refine own_if_eq X26 hx hby at_110 (pcY := 127) (pcN := 113) (by decide) rfl (fun (hc28 : (1 : Int32) = (0 : Int32)) => False.elim (by exact absurd hc28 (by decide))) (fun (hc28 : ¬ (1 : Int32) = (0 : Int32)) => ?_)
      refine own_iload X26 hx hby at_113 rfl rfl ?_
      refine own_if_eq X26 hx hby at_115 (pcY := 127) (pcN := 118) (by decide) rfl (fun (hc29 : (1 : Int32) = (0 : Int32)) => False.elim (by exact absurd hc29 (by decide))) (fun (hc29 : ¬ (1 : Int32) = (0 : Int32)) => ?_)
      refine own_iload X26 hx hby at_118 rfl rfl ?_
      refine own_if_eq X26 hx hby at_120 (pcY := 127) (pcN := 123) (by decide) rfl (fun (hc30 : (own_le x1 x1) = (0 : Int32)) => False.elim (by rw [own_self] at hc30; exact absurd hc30 (by decide))) (fun (hc30 : ¬ (own_le x1 x1) = (0 : Int32)) => ?_)
      refine own_iconst X26 hx hby at_123 rfl (1 : Int32) rfl ?_
      refine own_goto X26 hx hby at_124 (pc' := 128) (by decide) ?_
      refine own_ret X26 hx hby hret hlk at_128 (.int (1 : Int32)) rfl (Or.inl ⟨rfl, by simp, _, rfl⟩) (by decide) (by decide) ?_
      exact ⟨rfl, (Fr.app (Fr.app (Fr.app (Fr.app (Fr.app N0 (Fr.nil _)) (Fr.nil _)) (Fr.nil _)) (Fr.nil _)) (Fr.nil _))⟩
    · -- pc 77: f
      refine own_iconst X23 hx hby at_81 rfl (1 : Int32) rfl ?_
      refine own_goto X23 hx hby at_82 (pc' := 86) (by decide) ?_
      refine own_icmp_ne X23 hx hby at_86 (pcY := 93) (pcN := 89) (by decide) rfl (fun (hc31 : ¬ (own_le (x0 >>> ((2 : Int32).toInt64 &&& 63)) (x1 >>> ((2 : Int32).toInt64 &&& 63))) = (1 : Int32)) => False.elim (by have k := own_plain x0 x1; exact hc31 (own_le1 (by omega)))) (fun (hc31 : (own_le (x0 >>> ((2 : Int32).toInt64 &&& 63)) (x1 >>> ((2 : Int32).toInt64 &&& 63))) = (1 : Int32)) => ?_)
      refine own_iconst X23 hx hby at_89 rfl (1 : Int32) rfl ?_
      refine own_goto X23 hx hby at_90 (pc' := 94) (by decide) ?_
      refine own_istore X23 hx hby at_94 rfl #[.val (.long x0), .second, .val (.long x1), .second, .val (.long x2), .second, .val (.int (own_le x0 x1)), .val (.int (1 : Int32)), .val (.int (1 : Int32)), .val (.long (x0 >>> ((2 : Int32).toInt64 &&& 63))), .second, .val (.long (x1 >>> ((2 : Int32).toInt64 &&& 63))), .second, .val (.int (1 : Int32)), .unset] rfl ?_
      refine own_lloadN X23 hx hby at_96 rfl rfl ?_
      refine own_lloadN X23 hx hby at_97 rfl rfl ?_
      refine own_static X23 hx hby hZ (argsL := [(.long x1), (.long x1)]) (rest := []) hown (hw _ tw_0) (hw _ tw_1) (hw _ tw_2) (hw _ tw_3) (by decide) (rm1 l Z a0 hw x1 x1 h0) e23 (by rw [hml]; rfl) pd_0 rfl (by decide) (W := 0) (Nat.le_refl _) (by decide) (by decide) (by decide) at_98 rfl rfl (fun v32 T32 L32 X32 hQ32 => ?_)
      obtain ⟨rfl, rfl, e32⟩ := hQ32
      show Ends p.tables e below _ (T32.setTop (mkF m 101 #[.val (.long x0), .second, .val (.long x1), .second, .val (.long x2), .second, .val (.int (own_le x0 x1)), .val (.int (1 : Int32)), .val (.int (1 : Int32)), .val (.long (x0 >>> ((2 : Int32).toInt64 &&& 63))), .second, .val (.long (x1 >>> ((2 : Int32).toInt64 &&& 63))), .second, .val (.int (1 : Int32)), .unset] [(.int (own_le x1 x1))]))
      refine own_istore X32 hx hby at_101 rfl #[.val (.long x0), .second, .val (.long x1), .second, .val (.long x2), .second, .val (.int (own_le x0 x1)), .val (.int (1 : Int32)), .val (.int (1 : Int32)), .val (.long (x0 >>> ((2 : Int32).toInt64 &&& 63))), .second, .val (.long (x1 >>> ((2 : Int32).toInt64 &&& 63))), .second, .val (.int (1 : Int32)), .val (.int (own_le x1 x1))] rfl ?_
      refine own_iload X32 hx hby at_103 rfl rfl ?_
      refine own_if_eq X32 hx hby at_105 (pcY := 127) (pcN := 108) (by decide) rfl (fun (hc33 : (1 : Int32) = (0 : Int32)) => False.elim (by exact absurd hc33 (by decide))) (fun (hc33 : ¬ (1 : Int32) = (0 : Int32)) => ?_)
      refine own_iload X32 hx hby at_108 rfl rfl ?_
      refine own_if_eq X32 hx hby at_110 (pcY := 127) (pcN := 113) (by decide) rfl (fun (hc34 : (1 : Int32) = (0 : Int32)) => False.elim (by exact absurd hc34 (by decide))) (fun (hc34 : ¬ (1 : Int32) = (0 : Int32)) => ?_)
      refine own_iload X32 hx hby at_113 rfl rfl ?_
      refine own_if_eq X32 hx hby at_115 (pcY := 127) (pcN := 118) (by decide) rfl (fun (hc35 : (1 : Int32) = (0 : Int32)) => False.elim (by exact absurd hc35 (by decide))) (fun (hc35 : ¬ (1 : Int32) = (0 : Int32)) => ?_)
      refine own_iload X32 hx hby at_118 rfl rfl ?_
      refine own_if_eq X32 hx hby at_120 (pcY := 127) (pcN := 123) (by decide) rfl (fun (hc36 : (own_le x1 x1) = (0 : Int32)) => False.elim (by rw [own_self] at hc36; exact absurd hc36 (by decide))) (fun (hc36 : ¬ (own_le x1 x1) = (0 : Int32)) => ?_)
      refine own_iconst X32 hx hby at_123 rfl (1 : Int32) rfl ?_
      refine own_goto X32 hx hby at_124 (pc' := 128) (by decide) ?_
      refine own_ret X32 hx hby hret hlk at_128 (.int (1 : Int32)) rfl (Or.inl ⟨rfl, by simp, _, rfl⟩) (by decide) (by decide) ?_
      exact ⟨rfl, (Fr.app (Fr.app (Fr.app (Fr.app (Fr.app N0 (Fr.nil _)) (Fr.nil _)) (Fr.nil _)) (Fr.nil _)) (Fr.nil _))⟩
set_option maxRecDepth 65536 in
set_option maxHeartbeats 40000000 in
theorem comes_1 {Post : Tables → Env → Array Value → State → Outcome → State → Prop} (hpost : ∀ tb e args s v u, (limb_1_1.after args s (.returned v) u = true ∧ limb_1_2.after args s (.returned v) u = true ∧ True) → FrameEnd s (.returned v) u (Jvm.fieldLocs frame_1_writes args s ++ Jvm.arrayLocs frame_1_arrays args s ++ Jvm.staticLocs frame_1_statics s) 0 0 → Post tb e args s (.returned v) u) :
    ArmFor flags0 classFile x code maxLocals ret World_1 tables_1 room_1 Calls_1 rest_1 Pre_1 Post := by
  intro l hfl _ _ p e ha hc hk s m args below hf hA hF happ hP
  obtain ⟨hcalls, hrest, hpre⟩ := hP
  obtain ⟨-, -, -, hnamed, -, -, -, hat⟩ := (Spec.applies_iff hf).mp happ
  obtain ⟨hg, hn⟩ := and_e (Cond.before_iff.mp (show (Jvm.Cond.and given_1 narrow_1).before args s = true from hpre))
  obtain ⟨hcount, hg0⟩ := and_e hg
  obtain ⟨hv0, hg1⟩ := and_e hg0
  obtain ⟨hv1, hg2⟩ := and_e hg1
  have hv2 := hg2
  obtain ⟨w0, w1, w2, rfl⟩ : ∃ w0 w1 w2 : Value, args = #[w0, w1, w2] := by
    have hs : args.size = 3 := by simpa [Cond.value, given_1] using hcount
    obtain ⟨L⟩ := args
    match L, hs with
    | [w0, w1, w2], _ => exact ⟨w0, w1, w2, rfl⟩
  have hw := fun d (hd : d ∈ tables_1) => atoms_spec (ws := Jvm.Cond.code x code maxLocals ret :: tables_1) hat d (List.mem_cons_of_mem _ hd)
  have hfit : Fit s := fun {y c} hc i hi => by
    obtain ⟨ha, rfl⟩ := Array.getElem?_eq_some_iff.mp hc
    have q := List.all_eq_true.mp ((Array.all_eq_true_iff_forall_mem.mp hF) _ (Array.getElem_mem ha)) i (List.mem_range.mpr hi)
    simpa [Array.getElem?_eq_getElem hi] using q
  obtain ⟨i0, ei0⟩ := isL_v hv0
  obtain rfl : w0 = (.long i0) := Option.some.inj ei0
  obtain ⟨i1, ei1⟩ := isL_v hv1
  obtain rfl : w1 = (.long i1) := Option.some.inj ei1
  obtain ⟨i2, ei2⟩ := isL_v hv2
  obtain rfl : w2 = (.long i2) := Option.some.inj ei2
  obtain ⟨n, o, h1, h2, h3, _, L, rfl, ⟨rfl, N⟩, hq⟩ := rm0 l s _ hw i0 i1 i2 s.heap s.heap.size p e ha hc hk s m _ below hf ((Spec.applies_iff_loose hf).mp happ).1 ⟨rfl, State.Warmed39.refl s, rfl⟩ trivial
  refine ⟨n, _, h1, h2, h3, hpost _ _ _ _ _ _ ⟨Cond.after_iff.mpr rfl, Cond.after_iff.mpr (eq_i res_at (Term.int_eval (1)) rfl), trivial⟩ ⟨hq.1, hq.2.1, (hq.2.2.sift fun y hy => Or.inr (N y hy)).mono (by decide) (by decide)⟩⟩
theorem main_1_1 : Claimed_1_1 := comes_1 fun _ _ _ _ _ _ h hF => ⟨h.1, hF⟩
theorem main_1_2 : Claimed_1_2 := comes_1 fun _ _ _ _ _ _ h hF => ⟨h.2.1, hF⟩
end Jvm.Pilot.@@N@@
namespace Jvm.Pilot.@@N@@
open Jvm Jvm.ClassFile Sem Op Lib Jvm.Free Jvm.Stand Jvm.Pilot.@@N@@.Jvm.D
/-! MADE BY PROGRAM (witnessworld.py) out of the Statement's table words and the real class files: 9 classes; the members and pool entries that the words name. The judged class is class 1, her method 1. -/
namespace start1
open Jvm.ClassFile
def u (s : String) : CpInfo := .utf8 (stringToUtf16 s)
/-- a pool by its gaps: so many unusable entries, then the entry; so many at the end -/
def gap : Nat → List CpInfo → List CpInfo
  | 0, r => r
  | n + 1, r => .unusable :: gap n r
def poolList (es : List (Nat × CpInfo)) (last : Nat) : List CpInfo := es.foldr (fun e r => gap e.1 (e.2 :: r)) (gap last [])
def pool (es : List (Nat × CpInfo)) (last : Nat) : Array CpInfo := ⟨poolList es last⟩
def fileOf (pool : Array CpInfo) (this : Nat) (attrs : Array Attribute := #[]) (ms : Array MethodInfo := #[]) (fl : Nat := 33) (sup : Nat := 0) (ifs : Array Nat := #[]) (fds : Array FieldInfo := #[]) : ClassFile where
  minorVersion := 0
  majorVersion := 65
  constantPool := pool
  accessFlags := fl
  thisClass := this
  superClass := sup
  interfaces := ifs
  fields := fds
  methods := ms
  attributes := attrs
def plain (name : String) (sup : Option ClassId) : Class where
  name := name
  kind := .ordinary
  loader := none
  accessFlags := 33
  super := sup
  interfaces := #[]
  cf := none
  fields := #[]
  methods := #[]
  instanceTypes := #[]
  staticTypes := #[]
  resolved := #[]
  callSites := []
  init := .initialized
  statics := none
  mirror := none

def pool0 : Array CpInfo := pool [(5, u "<init>"), (0, u "()V"), (1, .class_ 10), (1, u "java/lang/Object")] 113

def k0m0 : Method := { name := "<init>", desc := "()V", sig := { parameters := [], returnType := none }, accessFlags := 1, code := none }
/-- java/lang/Object -/
def k0 : Class := { plain "java/lang/Object" none with
  accessFlags := 33
  interfaces := #[]
  cf := some (fileOf pool0 8 #[] #[{ accessFlags := 1, nameIndex := 5, descriptorIndex := 6, attributes := #[] }] 33 0 #[] #[])
  fields := #[]
  methods := #[k0m0]
  instanceTypes := #[]
  staticTypes := #[]
  resolved := Array.replicate 124 none
  statics := none }

def pool1 : Array CpInfo := pool [(2, .class_ 4), (1, u "java/lang/Object"), (0, u "<init>"), (0, u "()V"), (0, .methodref 8 9), (0, .class_ 10), (0, .nameAndType 11 12), (0, u "com/example/lyrebird/lyrebird/lease/Leases"), (0, u "hasPassed"), (0, u "(JJ)Z"), (0, .class_ 14), (0, u "com/example/lyrebird/lyrebird/lease/LeasesHasPassedPinLaw"), (2, u "law"), (0, u "(JJJ)Z")] 3

def k1m0 : Method := { name := "<init>", desc := "()V", sig := { parameters := [], returnType := none }, accessFlags := 1, code := none }
def k1c1 : Code := { maxStack := 6, maxLocals := 15, code := code, exceptionTable := #[], attributes := #[] }
def k1m1 : Method := { name := "law", desc := "(JJJ)Z", sig := { parameters := [.long, .long, .long], returnType := some .boolean }, accessFlags := 9, code := some k1c1 }
/-- com/example/lyrebird/lyrebird/lease/LeasesHasPassedPinLaw -/
def k1 : Class := { plain "com/example/lyrebird/lyrebird/lease/LeasesHasPassedPinLaw" (some 0) with
  accessFlags := 49
  interfaces := #[]
  cf := some (fileOf pool1 13 #[] #[{ accessFlags := 1, nameIndex := 5, descriptorIndex := 6, attributes := #[] }, { accessFlags := 9, nameIndex := 17, descriptorIndex := 18, attributes := #[] }] 49 2 #[] #[])
  fields := #[]
  methods := #[k1m0, k1m1]
  instanceTypes := #[]
  staticTypes := #[]
  resolved := Array.replicate 22 none
  statics := none }

def pool2 : Array CpInfo := pool [(2, .class_ 4), (1, u "java/lang/Object"), (6, .class_ 13), (1, u "com/example/lyrebird/lyrebird/lease/Leases"), (0, u "leases"), (0, u "Ljava/util/Map;"), (25, u "due"), (0, u "Ljava/util/NavigableSet;"), (2, u "unit"), (0, u "Ljava/util/concurrent/TimeUnit;"), (31, .class_ 79), (0, u "com/example/lyrebird/lyrebird/lease/Leases$Lease"), (26, u "hasPassed"), (0, u "(JJ)Z")] 97

def k2c0 : Code := { maxStack := 4, maxLocals := 4, code := prog_6_method_4_code, exceptionTable := #[], attributes := #[] }
def k2m0 : Method := { name := "hasPassed", desc := "(JJ)Z", sig := { parameters := [.long, .long], returnType := some .boolean }, accessFlags := 9, code := some k2c0 }
/-- com/example/lyrebird/lyrebird/lease/Leases -/
def k2 : Class := { plain "com/example/lyrebird/lyrebird/lease/Leases" (some 0) with
  accessFlags := 49
  interfaces := #[]
  cf := some (fileOf pool2 11 #[.nestMembers #[78]] #[{ accessFlags := 9, nameIndex := 106, descriptorIndex := 107, attributes := #[] }] 49 2 #[] #[{ accessFlags := 18, nameIndex := 45, descriptorIndex := 46, attributes := #[] }, { accessFlags := 18, nameIndex := 14, descriptorIndex := 15, attributes := #[] }, { accessFlags := 18, nameIndex := 41, descriptorIndex := 42, attributes := #[] }])
  fields := #[{ name := "unit", type := (.object "java/util/concurrent/TimeUnit"), accessFlags := 18, slot := 0, constantValue := 0 }, { name := "leases", type := (.object "java/util/Map"), accessFlags := 18, slot := 1, constantValue := 0 }, { name := "due", type := (.object "java/util/NavigableSet"), accessFlags := 18, slot := 2, constantValue := 0 }]
  methods := #[k2m0]
  instanceTypes := #[(.object "java/util/concurrent/TimeUnit"), (.object "java/util/Map"), (.object "java/util/NavigableSet")]
  staticTypes := #[]
  resolved := Array.replicate 205 none
  statics := none }

def pool3 : Array CpInfo := pool [(1, u "java/lang/Cloneable"), (0, .class_ 1), (0, u "java/lang/Object"), (0, .class_ 3)] 3

/-- java/lang/Cloneable -/
def k3 : Class := { plain "java/lang/Cloneable" (some 0) with
  accessFlags := 1537
  interfaces := #[]
  cf := some (fileOf pool3 2 #[] #[] 1537 4 #[] #[])
  fields := #[]
  methods := #[]
  instanceTypes := #[]
  staticTypes := #[]
  resolved := Array.replicate 8 none
  statics := none }

def pool4 : Array CpInfo := pool [(1, u "java/io/Serializable"), (0, .class_ 1), (0, u "java/lang/Object"), (0, .class_ 3)] 3

/-- java/io/Serializable -/
def k4 : Class := { plain "java/io/Serializable" (some 0) with
  accessFlags := 1537
  interfaces := #[]
  cf := some (fileOf pool4 2 #[] #[] 1537 4 #[] #[])
  fields := #[]
  methods := #[]
  instanceTypes := #[]
  staticTypes := #[]
  resolved := Array.replicate 8 none
  statics := none }

/-- the primitive byte -/
def k5 : Class := { plain "byte" none with kind := .primitive 'B', accessFlags := 0x411 }
/-- [B -/
def k6 : Class := { plain "[B" (some 0) with kind := .array 5 .byte, interfaces := #[3, 4], accessFlags := 1041 }

/-- the primitive int -/
def k7 : Class := { plain "int" none with kind := .primitive 'I', accessFlags := 0x411 }
/-- [I -/
def k8 : Class := { plain "[I" (some 0) with kind := .array 7 .int, interfaces := #[3, 4], accessFlags := 1041 }

def heap : Heap := #[]
def classes : Array Class := #[k0, k1, k2, k3, k4, k5, k6, k7, k8]
def interned : List (Array UInt16 × Addr) := []
def slotsUsed : Nat := 0
def theMethod : MethodId := ⟨1, 1⟩
def args0 : Array Value := #[.long 5, .long 5, .long 5]
def aboutOver (below : List Frame) : State where
  vm := { classes := classes, interned := interned.toArray }
  heap := heap
  slotsUsed := slotsUsed
  threads := #[{ frames := .invoking theMethod args0 :: below }]
def below0 : List Frame := [.native { method := ⟨0, 0⟩, args := #[] }]
def about1 : State := aboutOver below0
def p0 : Program := .bare "" "" ""
def e0 : Env := launch0.env 0 0 0
theorem w_frames : about1.frames = Frame.invoking theMethod args0 :: below0 := rfl
set_option maxRecDepth 65536 in
theorem w_args : argsFit about1.vm theMethod args0 = true := by decide +kernel
set_option maxRecDepth 65536 in
theorem w_heap : heapFits about1 = true := by decide +kernel
set_option maxRecDepth 65536 in
theorem w_runnable : about1.curStatus? = some .runnable := by decide +kernel
set_option maxRecDepth 65536 in
theorem w_alone : about1.alone = true := by decide +kernel
set_option maxRecDepth 65536 in
theorem w_named : about1.methodNamed? x = some theMethod := by decide +kernel
set_option maxRecDepth 65536 in
theorem w_hears : about1.hears theMethod below0 = true := by decide +kernel
set_option maxRecDepth 65536 in
theorem w_ripe : about1.ripe theMethod args0 below0 = true := by decide +kernel
theorem w_running : about1.status = .running := rfl
set_option maxRecDepth 65536 in
theorem w_room : about1.hasRoom e0.platform room_1 = true :=
  launch0.hasRoom_least _ room_1 (by decide +kernel) (by decide +kernel) (by decide +kernel) (by decide +kernel) (by decide +kernel) (by decide +kernel)
theorem allAtoms_all (ts : List Jvm.Cond) (a : Array Jvm.Value) (st : Jvm.State) : (allAtoms ts).before a st = ts.all (fun c => c.before a st) := by
  induction ts with
  | nil => rfl
  | cons c t ih =>
    show (Jvm.Cond.and c (allAtoms t)).before a st = _
    rw [Jvm.Cond.before_and, ih, List.all_cons]
def words1 : List Jvm.Cond := Jvm.Cond.code x code maxLocals ret :: tables_1
/-- a 'code' word, met by the world's own term for the bytes: nothing is compared byte by byte -/
theorem code_word {y : MethodName} {bytes : ByteArray} {mx : Nat} {rt : Option FieldType} {a : Array Value} {s : State} {m : MethodId} {meth : Method} {c : Code} (h1 : s.methodNamed? y = some m) (h2 : s.vm.method? m = some meth) (h3 : meth.code = some c) (h4 : c.code = bytes)
    (h5 : (c.maxLocals == mx && c.exceptionTable.isEmpty && decide (c.maxStack ≤ mostOperands) && decide (meth.sig.returnType = rt) && !meth.locks && decide (parseMethodDescriptor y.desc = some meth.sig)) = true) : (Jvm.Cond.code y bytes mx rt).before a s = true := by
  simp only [Bool.and_eq_true, beq_iff_eq, Bool.not_eq_true', decide_eq_true_eq] at h5
  obtain ⟨⟨⟨⟨⟨g1, g2⟩, g3⟩, g4⟩, g5⟩, g6⟩ := h5
  simp [Cond.before, Cond.holds, Cond.value, h1, h2, h3, h4, g1, g2, g3, g4, g5, g6]
def isCode : Jvm.Cond → Bool
  | .code _ _ _ _ => true
  | _ => false
theorem all_split {L : List Jvm.Cond} {P : Jvm.Cond → Bool} (h1 : L.all (fun c => isCode c || P c) = true) (h2 : ∀ c ∈ L.filter isCode, P c = true) : L.all P = true := by
  refine List.all_eq_true.mpr fun c hc => ?_
  have h := List.all_eq_true.mp h1 c hc
  rcases Bool.eq_false_or_eq_true (isCode c) with hi | hi
  · exact h2 c (List.mem_filter.mpr ⟨hc, hi⟩)
  · simpa [hi] using h
set_option maxRecDepth 65536 in
theorem w_c0 : (Jvm.Cond.code x code maxLocals ret).before args0 about1 = true := code_word (m := ⟨1, 1⟩) (meth := k1m1) (c := k1c1) (by decide +kernel) rfl rfl rfl (by decide +kernel)
set_option maxRecDepth 65536 in
theorem w_c1 : (Jvm.Cond.code ({ cls := "com/example/lyrebird/lyrebird/lease/Leases", name := "hasPassed", desc := "(JJ)Z" } : Jvm.MethodName) prog_6_method_4_code (4 : Nat) (Option.some Jvm.ClassFile.FieldType.boolean)).before args0 about1 = true := code_word (m := ⟨2, 0⟩) (meth := k2m0) (c := k2c0) (by decide +kernel) rfl rfl rfl (by decide +kernel)
def codes1 : List Jvm.Cond := [Jvm.Cond.code x code maxLocals ret, Jvm.Cond.code ({ cls := "com/example/lyrebird/lyrebird/lease/Leases", name := "hasPassed", desc := "(JJ)Z" } : Jvm.MethodName) prog_6_method_4_code (4 : Nat) (Option.some Jvm.ClassFile.FieldType.boolean)]
set_option maxRecDepth 65536 in
theorem codes_eq : words1.filter isCode = codes1 := rfl
theorem w_codes : ∀ c ∈ words1.filter isCode, c.before args0 about1 = true := by
  rw [codes_eq]
  intro c hc
  simp only [codes1, List.mem_cons, List.not_mem_nil, or_false] at hc
  rcases hc with rfl | rfl
  · exact w_c0
  · exact w_c1
set_option maxRecDepth 65536 in
theorem w_t1 : words1.all (fun c => isCode c || c.before args0 about1) = true := by decide +kernel
theorem w_tables : (allAtoms (Jvm.Cond.code x code maxLocals ret :: tables_1)).before args0 about1 = true := by
  rw [allAtoms_all]
  show words1.all (fun c => c.before args0 about1) = true
  refine all_split ?_ w_codes
  rw [w_t1]
set_option maxRecDepth 65536 in
theorem w_case : (Jvm.Cond.and given_1 narrow_1).before args0 about1 = true := by decide +kernel
theorem w_applies : (headSpec (Jvm.Cond.code x code maxLocals ret :: tables_1) room_1).applies x e0.platform about1 = true :=
  (Spec.applies_iff w_frames).mpr ⟨w_running, w_runnable, w_alone, w_named, w_hears, w_ripe, w_room, w_tables⟩
theorem atStart : AtStart classFile x code maxLocals ret World_1 tables_1 room_1 Calls_1 rest_1 Pre_1 launch0 p0 e0 about1 theMethod args0 below0 :=
  ⟨lists_1, trivial, launch0.admits_env _ _ _, launch0.least_env, fairChoices_fair.cas, fairChoices_fair.clock, w_frames, w_args, w_heap, w_applies, trivial, trivial, w_case⟩
end start1
theorem witness_1 : WitnessClaimed_1 := ⟨start1.p0, start1.e0, start1.about1, start1.theMethod, start1.args0, start1.below0, start1.atStart⟩
end Jvm.Pilot.@@N@@
